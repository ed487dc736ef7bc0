/- Shared texts of these proofs, laid together by merge.py: Tgd, Tge, Shelg, Tgf, Kt, Leaf, Rs, Rt, Ruu, Rtop, Lw, Tree, TreeRep, Spa. -/
import Derived.Test.YtmpilpgabelmiaaGreatDoorVe
import Derived.Shelf.GgSortFunc.Tiny
import Derived.Shelf.GgSortFunc.Whole
import Derived.Test.YtmpilpgabelmiaaGreatDoorProg
import Derived.Deep.QuietTactic
import Derived.Lib.SortBridge
import Derived.Sort.LotA
import Derived.Test.YtmpilpgabelmiaaGreatDoorVa
import Derived.Laws.CopyOwn
import Derived.Deep.RegionHeld3
set_option linter.unusedVariables false
/- Unknown tags: how many there are; one tag, written. -/
namespace Go.Proofs.YtmpilpgabelmiaaGreatDoor
open Go Go.RowKit Go.Maps
set_option linter.unusedVariables false

/-- 'append(dst, a, b, ..)' of bytes: the literal has just been laid. -/
theorem wpl_append_bytesG {P : Program} {w : World} {ops : Array Oper} {rest : List Oper} {o : Oper} {a : Act} {Q : Exit → Act → World → Prop} {t : TypeId} (T : BytesT P t 5) (hgd : o.guard = none) (s x : Operand)
    (ho : o.op = .call { callee := .builtin .append, args := #[s, x], argTypes := #[t, t] }) (base : Nat) (bs : List UInt8) (hown : Own base w (a.eval s) bs) (hb : base ≤ w.heap.size)
    (cs : List Value) (bs' : List UInt8) (hcs : cs = bs'.map byteV) (hx : a.eval x = .slice (some ⟨w.heap.size, 0, none⟩) cs.length cs.length) (hl : bs.length + bs'.length ≤ lim)
    (h : ∀ v' w', Own base w' v' (bs ++ bs') → w.grownBy w' (a.eval s).ownBlock → wpList P ops Q rest (a.put o.dst v') w') : wpList P ops Q (o :: rest) a (w.alloc (.cells cs.toArray 5)) := by
  obtain ⟨i, hi, hz, hs, hby⟩ := T.info
  subst hcs
  rw [List.length_map] at hx
  refine wpl_append_src hgd s x t t ho base 5 i (.int .u8 0) 1 1 T.under hi hz hs hby rfl (a.eval s) bs.length (bs.map byteV) rfl (World.ownsRow.alloc hown _) _ bs'.length (bs'.map byteV) hx
    (Src.ofSlice _ T.under _ _ _ _ (by simp) ?_ ?_) (lim_max hl) (lim_room hl) (by simp; omega) ?_
  · intro j u hj
    rw [Addr.add_lit, (Blk.alloc_new w (bs'.map byteV) _).cell]
    simpa using hj
  · intro u hu
    obtain ⟨_, _, rfl⟩ := List.mem_map.1 hu
    rfl
  · intro v' w' hown' hg _
    refine h v' w' ?_ ?_
    · unfold Own
      simpa using hown'
    · exact ⟨hg.os, hg.tape, hg.output, Nat.le_trans (by simp) hg.size, fun k hk hne => (hg.block k (by simp; omega) hne).trans (Below.heap_alloc w _ k hk)⟩

/-- 'append(dst, src...)' of bytes that lie in memory (or are nil), or of a text. -/
theorem wpl_append_fromG {P : Program} {w : World} {ops : Array Oper} {rest : List Oper} {o : Oper} {a : Act} {Q : Exit → Act → World → Prop} {t tx : TypeId} (T : BytesT P t 5) (hgd : o.guard = none) (s x : Operand)
    (ho : o.op = .call { callee := .builtin .append, args := #[s, x], argTypes := #[t, tx] }) (base : Nat) (bs : List UInt8) (hown : Own base w (a.eval s) bs) (hb : base ≤ w.heap.size)
    (bs' : List UInt8) (hsrc : Src P 1 tx (a.eval x) bs'.length (bs'.map byteV) w) (hl : bs.length + bs'.length ≤ lim)
    (h : ∀ v' w', Own base w' v' (bs ++ bs') → w.grownBy w' (a.eval s).ownBlock → wpList P ops Q rest (a.put o.dst v') w') : wpList P ops Q (o :: rest) a w := by
  obtain ⟨i, hi, hz, hs, hby⟩ := T.info
  refine wpl_append_src hgd s x t tx ho base 5 i (.int .u8 0) 1 1 T.under hi hz hs hby rfl (a.eval s) bs.length (bs.map byteV) rfl hown _ bs'.length (bs'.map byteV) rfl hsrc (lim_max hl) (lim_room hl) hb ?_
  intro v' w' hown' hg _
  refine h v' w' ?_ ?_
  · unfold Own
    simpa using hown'
  · exact hg

/-- Function f appends; but for the bytes' own block nothing has turned. -/
def AppG (P : Program) (f : Nat) (arg : Value) (new : List UInt8) : Prop :=
  ∀ (base : Nat) (w : World) (v : Value) (bs : List UInt8), Own base w v bs → base ≤ w.heap.size → bs.length + new.length ≤ lim → Calls P f #[v, arg] w fun e w' => ∃ v', e = .returned v' ∧ Own base w' v' (bs ++ new) ∧ w.grownBy w' v.ownBlock
set_option maxRecDepth 100000 in
set_option maxHeartbeats 1000000 in
theorem uvG1 (n : Nat) (h0 : 0 ≤ n) (h1 : n ≤ 127) : AppG Tryz.prog 42 (.int .u32 n) (uv n) := by
  intro base w v bs hown hb hl
  have hu : ulen n = 1 := by unfold ulen; split <;> (try split) <;> (try split) <;> (try split) <;> omega
  rw [uv1 (by omega)] at hl ⊢
  go_enter Tryz.func42, Tryz.ntmps42
  go_wp2_with fail
  refine (uvarintLen w n (by omega) (by omega)).mono ?_
  rintro e w' ⟨rfl, rfl⟩
  rw [hu]
  clear hu
  go_wp2_with (at_builtin; refine halted ?_)
  refine wpl_append_bytesG bt rfl _ _ rfl base bs hown hb _ [UInt8.ofNat n] ?_ rfl hl ?_
  · simp only [List.map_cons, List.map_nil, byteV_nat (show n < 256 by omega)]
    all_goals rfl
  intro v' w' hown' hbel
  go_wp2
  go_ret
  exact ⟨_, rfl, hown', hbel⟩
set_option maxRecDepth 100000 in
set_option maxHeartbeats 1000000 in
theorem uvG2 (n : Nat) (h0 : 128 ≤ n) (h1 : n ≤ 16383) : AppG Tryz.prog 42 (.int .u32 n) (uv n) := by
  intro base w v bs hown hb hl
  have hu : ulen n = 2 := by unfold ulen; split <;> (try split) <;> (try split) <;> (try split) <;> omega
  rw [uv2 (by omega) (by omega)] at hl ⊢
  go_enter Tryz.func42, Tryz.ntmps42
  go_wp2_with fail
  refine (uvarintLen w n (by omega) (by omega)).mono ?_
  rintro e w' ⟨rfl, rfl⟩
  rw [hu]
  clear hu
  go_wp2_with (at_builtin; refine halted ?_)
  refine wpl_append_bytesG bt rfl _ _ rfl base bs hown hb _ [UInt8.ofNat (n % 128 + 128), UInt8.ofNat (n / 128)] ?_ rfl hl ?_
  · simp only [List.map_cons, List.map_nil, byteV_nat (show n % 128 + 128 < 256 by omega), byteV_nat (show n / 128 < 256 by omega)]
    rw [show ((n : Int) / 128) = ((n / 128 : Nat) : Int) by omega, seven (n) (by omega)]
  intro v' w' hown' hbel
  go_wp2
  go_ret
  exact ⟨_, rfl, hown', hbel⟩
set_option maxRecDepth 100000 in
set_option maxHeartbeats 1000000 in
theorem uvG3 (n : Nat) (h0 : 16384 ≤ n) (h1 : n ≤ 2097151) : AppG Tryz.prog 42 (.int .u32 n) (uv n) := by
  intro base w v bs hown hb hl
  have hu : ulen n = 3 := by unfold ulen; split <;> (try split) <;> (try split) <;> (try split) <;> omega
  rw [uv3 (by omega) (by omega)] at hl ⊢
  go_enter Tryz.func42, Tryz.ntmps42
  go_wp2_with fail
  refine (uvarintLen w n (by omega) (by omega)).mono ?_
  rintro e w' ⟨rfl, rfl⟩
  rw [hu]
  clear hu
  go_wp2_with (at_builtin; refine halted ?_)
  refine wpl_append_bytesG bt rfl _ _ rfl base bs hown hb _ [UInt8.ofNat (n % 128 + 128), UInt8.ofNat (n / 128 % 128 + 128), UInt8.ofNat (n / 16384)] ?_ rfl hl ?_
  · simp only [List.map_cons, List.map_nil, byteV_nat (show n % 128 + 128 < 256 by omega), byteV_nat (show n / 128 % 128 + 128 < 256 by omega), byteV_nat (show n / 16384 < 256 by omega)]
    rw [show ((n : Int) / 128) = ((n / 128 : Nat) : Int) by omega, show ((n : Int) / 16384) = ((n / 16384 : Nat) : Int) by omega, seven (n) (by omega), seven (n / 128) (by omega)]
  intro v' w' hown' hbel
  go_wp2
  go_ret
  exact ⟨_, rfl, hown', hbel⟩
set_option maxRecDepth 100000 in
set_option maxHeartbeats 1000000 in
theorem uvG4 (n : Nat) (h0 : 2097152 ≤ n) (h1 : n ≤ 268435455) : AppG Tryz.prog 42 (.int .u32 n) (uv n) := by
  intro base w v bs hown hb hl
  have hu : ulen n = 4 := by unfold ulen; split <;> (try split) <;> (try split) <;> (try split) <;> omega
  rw [uv4 (by omega) (by omega)] at hl ⊢
  go_enter Tryz.func42, Tryz.ntmps42
  go_wp2_with fail
  refine (uvarintLen w n (by omega) (by omega)).mono ?_
  rintro e w' ⟨rfl, rfl⟩
  rw [hu]
  clear hu
  go_wp2_with (at_builtin; refine halted ?_)
  refine wpl_append_bytesG bt rfl _ _ rfl base bs hown hb _ [UInt8.ofNat (n % 128 + 128), UInt8.ofNat (n / 128 % 128 + 128), UInt8.ofNat (n / 16384 % 128 + 128), UInt8.ofNat (n / 2097152)] ?_ rfl hl ?_
  · simp only [List.map_cons, List.map_nil, byteV_nat (show n % 128 + 128 < 256 by omega), byteV_nat (show n / 128 % 128 + 128 < 256 by omega), byteV_nat (show n / 16384 % 128 + 128 < 256 by omega), byteV_nat (show n / 2097152 < 256 by omega)]
    rw [show ((n : Int) / 128) = ((n / 128 : Nat) : Int) by omega, show ((n : Int) / 16384) = ((n / 16384 : Nat) : Int) by omega, show ((n : Int) / 2097152) = ((n / 2097152 : Nat) : Int) by omega, seven (n) (by omega), seven (n / 128) (by omega), seven (n / 16384) (by omega)]
  intro v' w' hown' hbel
  go_wp2
  go_ret
  exact ⟨_, rfl, hown', hbel⟩
set_option maxRecDepth 100000 in
set_option maxHeartbeats 1000000 in
theorem uvG5 (n : Nat) (h0 : 268435456 ≤ n) (h1 : n ≤ 4294967295) : AppG Tryz.prog 42 (.int .u32 n) (uv n) := by
  intro base w v bs hown hb hl
  have hu : ulen n = 5 := by unfold ulen; split <;> (try split) <;> (try split) <;> (try split) <;> omega
  rw [uv5 (by omega) (by omega)] at hl ⊢
  go_enter Tryz.func42, Tryz.ntmps42
  go_wp2_with fail
  refine (uvarintLen w n (by omega) (by omega)).mono ?_
  rintro e w' ⟨rfl, rfl⟩
  rw [hu]
  clear hu
  go_wp2_with (at_builtin; refine halted ?_)
  refine wpl_append_bytesG bt rfl _ _ rfl base bs hown hb _ [UInt8.ofNat (n % 128 + 128), UInt8.ofNat (n / 128 % 128 + 128), UInt8.ofNat (n / 16384 % 128 + 128), UInt8.ofNat (n / 2097152 % 128 + 128), UInt8.ofNat (n / 268435456)] ?_ rfl hl ?_
  · simp only [List.map_cons, List.map_nil, byteV_nat (show n % 128 + 128 < 256 by omega), byteV_nat (show n / 128 % 128 + 128 < 256 by omega), byteV_nat (show n / 16384 % 128 + 128 < 256 by omega), byteV_nat (show n / 2097152 % 128 + 128 < 256 by omega), byteV_nat (show n / 268435456 < 256 by omega)]
    rw [show ((n : Int) / 128) = ((n / 128 : Nat) : Int) by omega, show ((n : Int) / 16384) = ((n / 16384 : Nat) : Int) by omega, show ((n : Int) / 2097152) = ((n / 2097152 : Nat) : Int) by omega, show ((n : Int) / 268435456) = ((n / 268435456 : Nat) : Int) by omega, seven (n) (by omega), seven (n / 128) (by omega), seven (n / 16384) (by omega), seven (n / 2097152) (by omega)]
  intro v' w' hown' hbel
  go_wp2
  go_ret
  exact ⟨_, rfl, hown', hbel⟩
theorem uvG (n : Nat) (h : n ≤ 4294967295) : AppG Tryz.prog 42 (.int .u32 n) (uv n) := by
  by_cases h1 : n ≤ 127
  · exact uvG1 n (by omega) h1
  by_cases h2 : n ≤ 16383
  · exact uvG2 n (by omega) h2
  by_cases h3 : n ≤ 2097151
  · exact uvG3 n (by omega) h3
  by_cases h4 : n ≤ 268435455
  · exact uvG4 n (by omega) h4
  · exact uvG5 n (by omega) h

/-- What stands in a block of w that holds no octets stands in w', too. -/
structure Turn (q : Nat) (w w' : World) : Prop where
  os : w'.os = w.os
  tape : w'.tape = w.tape
  output : w'.output = w.output
  size : w.heap.size ≤ w'.heap.size
  block : ∀ b, b < w.heap.size → b ≠ q → (∀ cur fr, w.heap[b]? ≠ some (.cells cur 5 fr)) → w'.heap[b]? = w.heap[b]?
theorem Turn.refl (q : Nat) (w : World) : Turn q w w := ⟨rfl, rfl, rfl, Nat.le_refl _, fun _ _ _ _ => rfl⟩
theorem Turn.trans {q : Nat} {a b c : World} (h : Turn q a b) (k : Turn q b c) : Turn q a c :=
  ⟨k.os.trans h.os, k.tape.trans h.tape, k.output.trans h.output, Nat.le_trans h.size k.size, fun i hi hq hn => by
    have e := h.block i hi hq hn
    exact (k.block i (Nat.lt_of_lt_of_le hi h.size) hq (fun cur fr => by rw [e]; exact hn cur fr)).trans e⟩
theorem Turn.setCell {q : Nat} {a b : World} (h : Turn q a b) (i : Nat) (x : Value) : Turn q a (b.setCell ⟨q, i, none⟩ x) :=
  h.trans ⟨rfl, rfl, rfl, by simp [World.setCell], fun k _ hk _ => Below.heap_setCell _ _ _ _ (fun e => hk (by first | exact e | exact e.symm))⟩
theorem Turn.grown {q base : Nat} {w w' : World} {v : Value} {bs : List UInt8} (hown : Own base w v bs) (hg : w.grownBy w' v.ownBlock) : Turn q w w' :=
  ⟨hg.os, hg.tape, hg.output, hg.size, fun b hb _ hn => hg.block b hb (fun e => by
    rcases hown.2 with ⟨rfl, -⟩ | ⟨g, cap, cur, rfl, -, hgg, -⟩
    · cases e
    · cases e; exact hn _ _ hgg)⟩
theorem Own.below_grown {base B : Nat} {w w' : World} {v : Value} {bs : List UInt8} (hown : Own base w v bs) (hB : B ≤ base) (hb : B ≤ w.heap.size) (hg : w.grownBy w' v.ownBlock) : Below B w w' :=
  (Below.refl _ _).grown hg hb (fun k hk => by have := (hown.lt k hk).1; omega)
set_option maxHeartbeats 1000000 in
theorem tagsLen {w0 w : World} {b o : Nat} {l : List (Nat × List UInt8)} (h : TagMem [] w0 b o l) (hb : Below w0.heap.size w0 w) : Calls Tryz.prog 43 #[.pointer (some ⟨b, o, none⟩)] w fun e w' => e = .returned (.int .i64 l.length) ∧ w = w' := by
  obtain ⟨m, n, D, hc, hm, hn, hv, -, -⟩ := h
  have m0 : w.cell? ⟨b, o, none⟩ = some (.map m) := (hb.cell (p := ⟨b, o, none⟩) (World.block_lt_of_cell? w0 _ hc)).trans hc
  have hsz := hv.size
  cases m with
  | none =>
    cases hm
    have hl : l.length = 0 := by rw [← hsz]; rfl
    clear hc hn hv hsz
    rw [hl]
    go_enter Tryz.func43, Tryz.ntmps43
    go_wp2
    go_ret
    exact ⟨rfl, rfl⟩
  | some g =>
    have hown : w.ownsMap Tryz.prog 66 R0 g n D := ownsMap_block hm (hb.block g (World.ownsMap.lt hm))
    rw [← hsz]
    clear hc hn hv hsz hm
    go_enter Tryz.func43, Tryz.ntmps43
    go_wp2_with (first
      | (at_len; refine wpList_len_own _ rfl _ 51 rfl 66 22 Tryz.underlying51 _ g n D rfl hown ?_)
      | go_in)
    go_ret
    exact ⟨rfl, rfl⟩
theorem own_shape {base : Nat} {w : World} {v : Value} {bs : List UInt8} (h : Own base w v bs) : ∃ a c, v = .slice a bs.length c := by
  rcases h.2 with ⟨rfl, hn⟩ | ⟨g, cap, cur, rfl, -⟩
  · exact ⟨none, 0, by rw [hn]⟩
  · exact ⟨_, _, rfl⟩
/-- One tag, appended to the bytes in cell q. -/
def TagPut (w0 : World) (q : Nat) (bs : List UInt8) (w : World) (e : Ending) (w' : World) : Prop := e = .returned (.tuple #[]) ∧ ∃ x', Blk w' q [x'] 22 ∧ Own w0.heap.size w' x' bs ∧ Turn q w w' ∧ Below w0.heap.size w0 w'
theorem own_set {base q i T : Nat} {w : World} {v : Value} {c : List Value} {bs : List UInt8} (h : Own base w v bs) (hB : Blk w q c T) (hT : T ≠ 5) (u : Value) : Own base (w.setCell ⟨q, i, none⟩ u) v bs := by
  refine ⟨h.1, ?_⟩
  rcases h.2 with hn | ⟨g, cap, cur, rfl, h1, h2, h3⟩
  · exact .inl hn
  · refine .inr ⟨g, cap, cur, rfl, h1, ?_, h3⟩
    rw [Below.heap_setCell _ _ _ _ (fun e => ?_)]
    · exact h2
    · subst e
      unfold Blk at hB
      rw [h2] at hB
      simp at hB
      exact hT hB.2.symm
theorem blk_grown {base q T : Nat} {w w' : World} {v : Value} {c : List Value} {bs : List UInt8} (hown : Own base w v bs) (hg : w.grownBy w' v.ownBlock) (hB : Blk w q c T) (hT : T ≠ 5) : Blk w' q c T := by
  refine (hg.block q hB.lt (fun e => ?_)).trans hB
  rcases hown.2 with ⟨rfl, -⟩ | ⟨g, cap, cur, rfl, -, hgg, -⟩
  · cases e
  · cases e
    unfold Blk at hB
    rw [hgg] at hB
    simp at hB
    exact hT hB.2.symm
set_option maxHeartbeats 2000000 in
theorem tagPut {w0 w : World} {q k : Nat} {x v : Value} {bs val : List UInt8} (hB : Below w0.heap.size w0 w) (hv : RB [] w0 v val) (hq : w0.heap.size ≤ q) (hblk : Blk w q [x] 22) (hown : Own w0.heap.size w x bs) (hk : k ≤ 4294967295) (hval : val.length ≤ 4294967295) (hl : bs.length + (apTags [(k, val)]).length ≤ lim) :
    Calls Tryz.prog 79 #[.int .u32 (k : Nat), v, .pointer (some ⟨q, 0, none⟩)] w (TagPut w0 q (bs ++ apTags [(k, val)]) w) := by
  have e0 : apTags [(k, val)] = uv k ++ uv val.length ++ val := by simp [apTags]
  rw [e0] at hl ⊢
  simp only [List.length_append] at hl
  have hbs := hB.size
  obtain ⟨sad, scap, rfl, -⟩ : ∃ a cap, v = .slice a val.length cap ∧ True := by obtain ⟨a, cap, h, -⟩ := hv; exact ⟨a, cap, h, trivial⟩
  have m0 := hblk.cell_some (i := 0) rfl
  have f0 := hblk.frozen 0
  have C1 := Lib.hid (uvG k hk w0.heap.size w x bs hown hbs (by omega))
  have X0 := Lib.hid (And.intro hB (And.intro hblk (And.intro hown (And.intro hv (And.intro hbs (And.intro hl hval))))))
  clear hB hown hv hbs hl hblk hval
  have hz0 : (0 : Int) ≤ (val.length : Nat) := by omega
  have hz1 : ((val.length : Nat) : Int) ≤ 4294967295 := by have := X0.out.2.2.2.2.2.2; omega
  go_enter Tryz.func79, Tryz.ntmps79
  go_wp2_with fail
  refine C1.out.mono ?_
  rintro e w1 ⟨x1, rfl, o1, g1⟩
  obtain ⟨ya, yc, hx1⟩ := own_shape o1
  generalize (bs ++ uv k).length = yn at hx1
  subst hx1
  have b1 := blk_grown X0.out.2.2.1 g1 X0.out.2.1 (by decide)
  have m1 := b1.cell_some (i := 0) rfl
  have f1 := b1.frozen 0
  have o1' := own_set (i := 0) o1 b1 (by decide) (.slice ya yn yc)
  have b1' := b1.set 0 (.slice ya yn yc)
  have hs1 : w0.heap.size ≤ (w1.setCell ⟨q, 0, none⟩ (.slice ya yn yc)).heap.size := by have := g1.size; have := X0.out.2.2.2.2.1; simp [World.setCell]; omega
  have C2 := Lib.hid (uvG val.length (by omega) w0.heap.size _ _ (bs ++ uv k) o1' hs1 (by have := X0.out.2.2.2.2.2.1; simp only [List.length_append]; omega))
  have X1 := Lib.hid (And.intro o1 (And.intro g1 (And.intro b1 (And.intro o1' (And.intro b1' hs1)))))
  clear C1 o1 g1 b1 o1' b1' hs1 m0 f0
  go_wp2_with fail
  refine C2.out.mono ?_
  rintro e w2 ⟨x2, rfl, o2, g2⟩
  obtain ⟨za, zc, hx2⟩ := own_shape o2
  generalize (bs ++ uv k ++ uv val.length).length = zn at hx2
  subst hx2
  have b2 := blk_grown X1.out.2.2.2.1 g2 X1.out.2.2.2.2.1 (by decide)
  have m2 := b2.cell_some (i := 0) rfl
  have f2 := b2.frozen 0
  have o2' := own_set (i := 0) o2 b2 (by decide) (.slice za zn zc)
  have hs2 : w0.heap.size ≤ (w2.setCell ⟨q, 0, none⟩ (.slice za zn zc)).heap.size := by have := g2.size; have := X1.out.2.2.2.2.2; simp [World.setCell] at *; omega
  have bel1 : Below w0.heap.size w0 (w1.setCell ⟨q, 0, none⟩ (.slice ya yn yc)) := (X0.out.1.trans (Own.below_grown X0.out.2.2.1 (Nat.le_refl _) X0.out.2.2.2.2.1 X1.out.2.1)).setCell hq _
  have bel2 : Below w0.heap.size w0 (w2.setCell ⟨q, 0, none⟩ (.slice za zn zc)) := (bel1.trans (Own.below_grown X1.out.2.2.2.1 (Nat.le_refl _) X1.out.2.2.2.2.2 g2)).setCell hq _
  have hv2 : RB [] (w2.setCell ⟨q, 0, none⟩ (.slice za zn zc)) (.slice sad val.length scap) val := X0.out.2.2.2.1.keeps (Keeps.of_below bel2 (Nat.le_refl _))
  have X2 := Lib.hid (And.intro o2' (And.intro hs2 (And.intro bel2 (And.intro hv2 (And.intro b2 (And.intro g2 (b2.set 0 (.slice za zn zc))))))))
  clear C2 o2 g2 b2 o2' hs2 bel1 bel2 hv2 m1 f1
  go_wp2_with (at_builtin; refine halted ?_)
  refine wpl_append_fromG bt rfl _ _ rfl w0.heap.size (bs ++ uv k ++ uv val.length) X2.out.1 X2.out.2.1 val (Src.ofRB Tryz.underlying22 X2.out.2.2.2.1) (by have := X0.out.2.2.2.2.2.1; simp only [List.length_append]; omega) ?_
  intro x3 w3 o3 g3
  obtain ⟨ta, tc, hx3⟩ := own_shape o3
  generalize (bs ++ uv k ++ uv val.length ++ val).length = tn at hx3
  subst hx3
  have b3 := blk_grown X2.out.1 g3 X2.out.2.2.2.2.2.2 (by decide)
  have m3 := b3.cell_some (i := 0) rfl
  have f3 := b3.frozen 0
  have X3 := Lib.hid (And.intro o3 (And.intro g3 b3))
  clear o3 g3 b3 m2 f2
  go_wp2
  go_end0
  refine ⟨rfl, .slice ta tn tc, X3.out.2.2.set 0 _, ?_, ?_, ?_⟩
  · have h := own_set (i := 0) X3.out.1 X3.out.2.2 (by decide) (.slice ta tn tc)
    simpa only [List.append_assoc] using h
  · exact ((((Turn.grown X0.out.2.2.1 X1.out.2.1).setCell 0 _).trans (Turn.grown X1.out.2.2.2.1 X2.out.2.2.2.2.2.1)).setCell 0 _).trans (Turn.grown X2.out.1 X3.out.2.1) |>.setCell 0 _
  · exact (X2.out.2.2.1.trans (Own.below_grown X2.out.1 (Nat.le_refl _) X2.out.2.1 X3.out.2.1)).setCell hq _
end Go.Proofs.YtmpilpgabelmiaaGreatDoor

/- Unknown tags: all, written. -/
namespace Go.Proofs.YtmpilpgabelmiaaGreatDoor
open Go Go.RowKit Go.Maps
set_option linter.unusedVariables false

theorem u32Info : (Tryz.prog.info? 66).map (fun i => (i.zero, i.size, i.bytes)) = some (some (.int .u32 0), 1, 4) := by kernel_rfl
abbrev encK (k : Nat) : Value := .int .u32 (k : Nat)
/-- What is asked of sort.Slice. -/
def SortSpec : Prop := ∀ (w : World) (z c p : Nat) (ks : List Nat) (cur : Array Value), w.heap[z]? = some (.cells cur 66 (0, 0)) → cur.toList.take ks.length = ks.map encK → Blk w p [.slice (some ⟨z, 0, none⟩) ks.length c] 84 → ks.length < 4294967296 →
  Calls Tryz.prog 96 #[.iface 84 (.slice (some ⟨z, 0, none⟩) ks.length c), .func (.func 97) #[] #[.pointer (some ⟨p, 0, none⟩)]] w fun e w' =>
    e = .returned (.tuple #[]) ∧ ∃ (ks' : List Nat) (cur' : Array Value), ks'.Perm ks ∧ ks'.Pairwise (· ≤ ·) ∧ w'.heap[z]? = some (.cells cur' 66 (0, 0)) ∧ cur'.toList.take ks.length = ks'.map encK ∧ w.grownBy w' (some z)
def EachPost (w0 w : World) (q : Nat) (bs : List UInt8) (e : Ending) (w' : World) : Prop := e = .returned (.tuple #[]) ∧ ∃ x', Blk w' q [x'] 22 ∧ Own w0.heap.size w' x' bs ∧ Below w0.heap.size w w'
/-- The keys that were met so far. -/
def Coll (D : VD) (left : Lit → Bool) (ss : List Nat) : Prop := ss.Nodup ∧ ∀ k, k ∈ ss ↔ (Maps.has D (kl32 k) = true ∧ left (kl32 k) = false)
theorem Coll.start (D : VD) : Coll D (Maps.has D) [] := ⟨List.nodup_nil, fun x => by cases Maps.has D (kl32 x) <;> simp⟩
theorem Coll.step {D : VD} {left : Lit → Bool} {ss : List Nat} (h : Coll D left ss) {x : Nat} {y : VD} (hlk : left (kl32 x) = true) (hat : ∀ zd, D.atKey (kl32 x) zd = y) : Coll D (fun z => left z && !z.sameKey (kl32 x)) (ss ++ [x]) := by
  have hhas : Maps.has D (kl32 x) = true := has_true_of_atKey hat
  have hnew : x ∉ ss := fun hx => by have := ((h.2 x).1 hx).2; rw [hlk] at this; cases this
  refine ⟨List.nodup_append.2 ⟨h.1, by simp, fun a ha b hb => by simp at hb; subst hb; exact fun e => hnew (e ▸ ha)⟩, fun y => ?_⟩
  by_cases hy : y = x
  · subst hy
    have : (kl32 y).sameKey (kl32 y) = true := WideAt.sameKey_self (kl32_key y)
    simp [hhas, this]
  · have : (kl32 y).sameKey (kl32 x) = false := Maps.sameKey_ne fun e => hy (kl32_inj.1 e)
    simp [h.2 y, hy, this]
theorem Coll.sorted {D : VD} {left : Lit → Bool} {ss ks : List Nat} {O : List Nat} {w : World} {l : List (Nat × List UInt8)} (h : Coll D left ss) (hl : ∀ kl, left kl = false) (hv : View O w D l) (hp : ks.Perm ss) (hs : ks.Pairwise (· ≤ ·)) : ks = l.map (·.1) := by
  have hpl : ss.Perm (l.map (·.1)) := by
    refine (List.perm_ext_iff_of_nodup h.1 ?_).2 fun k => ?_
    · exact List.pairwise_map.2 (hv.sorted.imp fun {p q} hlt => by omega)
    · rw [h.2 k, hl]
      simp only [and_true, List.mem_map]
      constructor
      · intro hh
        obtain ⟨k', bs', e, hm⟩ := hv.only _ hh
        exact ⟨_, hm, (kl32_inj.1 e).symm⟩
      · rintro ⟨⟨k', bs'⟩, hm, rfl⟩
        exact (hv.there _ _ hm).1
  refine List.Perm.eq_of_pairwise (le := (· ≤ ·)) (fun a b _ _ h1 h2 => Nat.le_antisymm h1 h2) hs ?_ (hp.trans hpl)
  exact List.pairwise_map.2 (hv.sorted.imp fun {p q} hlt => by omega)
/-- The first loop, behind some rounds. -/
structure EInv (g p4 r n H : Nat) (D : VD) (L : Nat) (w wr : World) (left : Lit → Bool) (cnt : Nat) (ss : List Nat) (a : Option Addr) (c : Nat) : Prop where
  hrg : wr.ranges Tryz.prog 66 R0 g r n D left cnt
  le : ss.length + cnt ≤ L
  box : Blk wr p4 [.slice a ss.length c] 84
  row : wr.ownsRow H 66 1 (.slice a ss.length c) ss.length (ss.map encK)
  nn : a ≠ none
  coll : Coll D left ss
  below : Below H w wr
/-- The second loop. -/
structure EInv2 (q z H : Nat) (l : List (Nat × List UInt8)) (bs : List UInt8) (cur : Array Value) (w0 w wr : World) (k : Nat) (v x : Value) : Prop where
  le : k ≤ l.length
  val : v = .int .i64 (k : Nat)
  blk : Blk wr q [x] 22
  own : Own w0.heap.size wr x (bs ++ apTags (l.take k))
  below : Below w0.heap.size w wr
  row : wr.heap[z]? = some (.cells cur 66 (0, 0))
theorem apTags_snoc (l : List (Nat × List UInt8)) (k : Nat) (t : Nat × List UInt8) (h : l[k]? = some t) : apTags (l.take (k + 1)) = apTags (l.take k) ++ apTags [t] := by
  rw [List.take_add_one, h]
  simp [apTags]
theorem apTags_take (l : List (Nat × List UInt8)) (k : Nat) : (apTags (l.take k)).length ≤ (apTags l).length := by
  have e : apTags l = apTags (l.take k) ++ apTags (l.drop k) := by
    unfold apTags
    rw [← List.flatMap_append, List.take_append_drop]
  rw [e, List.length_append]
  omega
theorem row_block {w : World} {base e n : Nat} {v : Value} {xs : List Value} {k : Nat} (h : w.ownsRow base e 1 v n xs) (hk : v.ownBlock = some k) : ∃ cur, w.heap[k]? = some (.cells cur e (0, 0)) ∧ base ≤ k := by
  rcases h.2 with ⟨rfl, -⟩ | ⟨g, cap, cur, rfl, h1, h2, -⟩
  · cases hk
  · cases hk; exact ⟨cur, h2, h1⟩
theorem iter_ne {w : World} {base e n m b r : Nat} {v : Value} {xs : List Value} {D : VD} {left : Lit → Bool} {cnt : Nat} {P : Program} {k : TypeId} {R : Value → Option (VD × List MemPlace)} (h : w.ownsRow base e 1 v n xs) (hr : w.ranges P k R b r m D left cnt) : v.ownBlock ≠ some r := fun he => by
  obtain ⟨cur, h1, -⟩ := row_block h he
  obtain ⟨_, _, _, _, _, _, _, _, _, hit, _⟩ := hr
  rw [h1] at hit
  cases hit
theorem map_ne {w : World} {base e n m b : Nat} {v : Value} {xs : List Value} {D : VD} {P : Program} {k : TypeId} {R : Value → Option (VD × List MemPlace)} (h : w.ownsRow base e 1 v n xs) (hr : w.ownsMap P k R b m D) : v.ownBlock ≠ some b := fun he => by
  obtain ⟨cur, h1, -⟩ := row_block h he
  obtain ⟨_, _, hit, _⟩ := hr
  rw [h1] at hit
  cases hit
theorem blk_ne {w : World} {base e n p T : Nat} {v : Value} {xs c : List Value} (h : w.ownsRow base e 1 v n xs) (hB : Blk w p c T) (hT : T ≠ e) : v.ownBlock ≠ some p := fun he => by
  obtain ⟨cur, h1, -⟩ := row_block h he
  unfold Blk at hB
  rw [h1] at hB
  simp at hB
  exact hT hB.2.symm
theorem keyK {key : Value} {kl : Lit} (h : keyOf Tryz.prog 66 key = some kl) : ∃ x : Nat, key = encK x ∧ kl = kl32 x ∧ x ≤ 4294967295 := by
  obtain ⟨x, rfl, rfl, hw⟩ := Maps.keyOf_int_inv Tryz.underlying66 h
  unfold Lit.wf at hw
  simp [IntKind.min, IntKind.max, IntKind.bits, IntKind.signed] at hw
  have hx : ((x.toNat : Nat) : Int) = x := Int.toNat_of_nonneg hw.1
  refine ⟨x.toNat, ?_, ?_, by omega⟩
  · unfold encK; rw [hx]
  · unfold kl32; rw [hx]
theorem encK_inj {a b : Nat} (h : encK a = encK b) : a = b := by
  unfold encK at h
  simp at h
  omega
theorem grown_setCell (w : World) (p i : Nat) (u : Value) : w.grownBy (w.setCell ⟨p, i, none⟩ u) (some p) :=
  ⟨rfl, rfl, rfl, by simp [World.setCell], fun k _ hk => Below.heap_setCell _ _ _ _ (fun e => hk (by first | exact congrArg some e | exact congrArg some e.symm))⟩
theorem row_shape {w : World} {base e n : Nat} {v : Value} {xs : List Value} (h : w.ownsRow base e 1 v n xs) (hn : v ≠ .slice none 0 0) : ∃ a c, v = .slice a n c ∧ a ≠ none := by
  rcases h.2 with ⟨rfl, -⟩ | ⟨g, cap, cur, rfl, -⟩
  · exact absurd rfl hn
  · exact ⟨_, _, rfl, by simp⟩
theorem zeroBytes (w : World) : (zeroValue 22).run Tryz.prog w = .ok (.slice none 0 0) w := by kernel_rfl
set_option maxRecDepth 100000 in
set_option maxHeartbeats 2000000 in
theorem tagsEach (hS : SortSpec) {w0 w : World} {b o q : Nat} {x : Value} {bs : List UInt8} {l : List (Nat × List UInt8)} (h : TagMem [] w0 b o l) (hB : Below w0.heap.size w0 w) (hq : w0.heap.size ≤ q) (hblk : Blk w q [x] 22) (hown : Own w0.heap.size w x bs) (hl : bs.length + (apTags l).length ≤ lim) :
    Calls Tryz.prog 78 #[.pointer (some ⟨b, o, none⟩), .func (.func 79) #[] #[.pointer (some ⟨q, 0, none⟩)]] w (EachPost w0 w q (bs ++ apTags l)) := by
  obtain ⟨m, n, D, hc, hm, hn, hv, -, hl6, hl7⟩ := h
  have m0 : w.cell? ⟨b, o, none⟩ = some (.map m) := (hB.cell (p := ⟨b, o, none⟩) (World.block_lt_of_cell? w0 _ hc)).trans hc
  have hsz := hv.size
  cases m with
  | none =>
    cases hm
    have hl0 : l = [] := List.eq_nil_of_length_eq_zero (by rw [← hsz]; rfl)
    subst hl0
    have hE : EachPost w0 w q (bs ++ apTags []) (.returned (.tuple #[])) w := ⟨rfl, x, hblk, by simpa [apTags] using hown, Below.refl _ _⟩
    have HE := Lib.hid hE
    clear hc hn hv hsz hB hblk hown hE hl6 hl7 hl
    go_enter Tryz.func78, Tryz.ntmps78
    go_wp2
    go_end0
    exact HE.out
  | some g =>
    have hm' : w0.ownsMap Tryz.prog 66 R0 g n D := hm
    have hgl := World.ownsMap.lt hm'
    have hown1 : w.ownsMap Tryz.prog 66 R0 g n D := ownsMap_block hm' (hB.block g hgl)
    by_cases hl0 : l = []
    · subst hl0
      have hE : EachPost w0 w q (bs ++ apTags []) (.returned (.tuple #[])) w := ⟨rfl, x, hblk, by simpa [apTags] using hown, Below.refl _ _⟩
      have HE := Lib.hid hE
      have hz : Maps.size D = 0 := hsz
      clear hc hn hv hsz hB hblk hown hE hl6 hl7 hl hm hm'
      go_enter Tryz.func78, Tryz.ntmps78
      go_wp2_with (first
        | (at_len; refine wpList_len_own _ rfl _ 51 rfl 66 22 Tryz.underlying51 _ g n D rfl hown1 ?_; rw [hz])
        | go_in)
      go_end0
      exact HE.out
    · have hlen : 0 < l.length := List.length_pos_iff.2 hl0
      obtain ⟨i0, hi, hz0, hz1, hz2⟩ := info_parts u32Info
      have hlz : ((l.length : Nat) : Int) ≠ 0 := by omega
      have hmax : l.length ≤ maxLen := by unfold maxLen; omega
      have hby : i0.bytes * l.length ≤ 281474976710656 := by rw [hz2]; omega
      have hqlt := hblk.lt
      have X := Lib.hid (And.intro hc (And.intro hm' (And.intro hn (And.intro hv (And.intro hsz (And.intro hB (And.intro hblk (And.intro hown (And.intro hl (And.intro hl6 (And.intro hl7 (And.intro hgl hlen))))))))))))
      clear hc hm hm' hn hv hB hblk hown hl hl6 hl7
      have hgw : g < w.heap.size := hown1.lt
      have I := Lib.hid (And.intro hi (And.intro hz0 (And.intro hz1 (And.intro hz2 (And.intro hby (And.intro hmax (And.intro hown1 (And.intro hgw hqlt))))))))
      clear hi hz0 hz1 hz2 hby hmax hown1 hgw hqlt
      have hsz' := Lib.hid hsz
      clear hsz
      go_enter Tryz.func78, Tryz.ntmps78
      go_wp2_with (first
        | (at_len; refine wpList_len_own _ rfl _ 51 rfl 66 22 Tryz.underlying51 _ g n D rfl I.out.2.2.2.2.2.2.1 ?_; rw [hsz'.out])
        | (at_make; refine wpList_make_own _ rfl _ _ 84 rfl w.heap.size 66 i0 (.int .u32 0) 1 Tryz.underlying84 I.out.1 I.out.2.1 I.out.2.2.1 _ _ _ l.length rfl rfl rfl I.out.2.2.2.2.1 I.out.2.2.2.2.2.1 (Nat.le_refl _) ?_; intro w1 hrow1 hg1; have m1 : w1.cell? ⟨b, o, none⟩ = some (.map (some g)) := hg1.cell m0 (by simp); have m1' : ∀ ob, (w1.alloc ob).cell? ⟨b, o, none⟩ = some (.map (some g)) := fun ob => (World.cell?_of_block (Below.heap_alloc w1 ob _ (World.block_lt_of_cell? w1 _ m1))).trans m1)
        | (at_range; refine wpList_range_own _ rfl _ 51 rfl 66 22 tagKeyed Tryz.underlying51 _ g n D rfl ((I.out.2.2.2.2.2.2.1.kept hg1 (by simp)).alloc _) ?_; intro w2 hrg2 hg2 hs2)
        | go_in)
      try go_frame
      generalize hr : (w1.alloc (.cells #[.slice (some ⟨w.heap.size, 0, none⟩) 0 l.length] 84)).heap.size = r at *
      have k01 : Keeps [] w w1 := (Keeps.refl [] w).grown hg1 (fun k hk => by cases hk)
      have k12 : Keeps [] w1 w2 := ((Keeps.refl [] w1).alloc _).grown hg2 (fun k hk => by cases hk)
      have p4 : Blk w2 w1.heap.size [.slice (some ⟨w.heap.size, 0, none⟩) 0 l.length] 84 := (hg2.block w1.heap.size (by simp) (by simp)).trans (heap_alloc_new w1 _)
      have hrow2 : w2.ownsRow w.heap.size 66 1 (.slice (some ⟨w.heap.size, 0, none⟩) 0 l.length) 0 [] := (hrow1.alloc _).kept hg2 (.inr (by simp [Value.ownBlock]))
      have hbel2 : Below w.heap.size w w2 := (Keeps.trans k01 k12).below (Nat.le_refl _) (by simp)
      have hI0 : EInv g w1.heap.size r n w.heap.size D l.length w w2 (Maps.has D) (Maps.size D) [] (some ⟨w.heap.size, 0, none⟩) l.length := ⟨hrg2, by rw [hsz'.out]; simp, p4, hrow2, by simp, Coll.start D, hbel2⟩
      have hrr : r = w1.heap.size + 1 := by rw [← hr]; simp
      have RR := Lib.hid (And.intro hg1.size hrr)
      clear hr hrr
      have HI0 := Lib.hid hI0
      have K1 := Lib.hid k01
      clear hrow1 hg1 m1 m1' hrg2 hg2 hs2 k12 p4 hrow2 hbel2 hI0 k01
      go_loopw [] (fun wr => ∃ left cnt ss a c, EInv g w1.heap.size r n w.heap.size D l.length w wr left cnt ss a c) (fun wr => wr.rangeLeft g r)
      case atStart => exact ⟨_, _, _, _, _, HI0.out⟩
      case round =>
        obtain ⟨left, cnt, ss, a, c, hI⟩ := hrel
        have HR := Lib.hid hI
        clear hI HI0
        go_wp2_with (first
          | (at_next; refine wpList_next_ranges _ rfl _ rfl 66 tagKeyed R0 encK (fun v : Value => v) (fun key kl hk => by obtain ⟨x, hx, -⟩ := keyK hk; exact ⟨x, hx⟩) (fun v y hv => ⟨v, rfl⟩) g r n _ _ _ rfl HR.out.hrg ?_ ?_)
          | go_in)
        · intro hc0 hl0
          rcases HR.out.row.2 with ⟨hnil, -⟩ | ⟨z, cap, cur, hve, hbase, hb, h1, h2, h3, h4⟩
          · simp at hnil; exact absurd hnil.1 HR.out.nn
          cases hve
          have hC := hS wr z c w1.heap.size ss cur hb (by simpa using h4) HR.out.box (by have := HR.out.le; have := X.out.2.2.2.2.2.2.2.2.2.1; omega)
          have m5 := HR.out.box.cell_some (i := 0) rfl
          have C := Lib.hid hC
          have L0 := Lib.hid (And.intro hl0 (And.intro hbase hb))
          clear hC hl0 hbase hb h1 h2 h3 h4 hc0
          go_wp2_with fail
          refine C.out.mono ?_
          rintro e w5 ⟨rfl, ks', cur', hperm, hsort, hz5, hc5, hg5⟩
          have hk' : ks' = l.map (·.1) := HR.out.coll.sorted L0.out.1 X.out.2.2.2.1 hperm hsort
          have hll : ss.length = l.length := by rw [← hperm.length_eq, hk', List.length_map]
          have pz : w1.heap.size ≠ z := by
            rintro rfl
            have h := HR.out.box
            unfold Blk at h
            rw [L0.out.2.2] at h
            simp at h
          have box5 : Blk w5 w1.heap.size [.slice (some ⟨z, 0, none⟩) ss.length c] 84 := (hg5.block _ HR.out.box.lt (by simpa using pz)).trans HR.out.box
          have m7 := box5.cell_some (i := 0) rfl
          have bel5 : Below w.heap.size w w5 := HR.out.below.grown hg5 HR.out.below.size (fun j hj => by cases hj; exact L0.out.2.1)
          have W := Lib.hid (And.intro hz5 (And.intro hc5 (And.intro bel5 (And.intro hk' hll))))
          clear C hperm hsort hz5 hc5 hg5 hk' pz box5 bel5 m5
          rw [hll] at m7
          clear hll
          go_wp2
          have hJ0 : EInv2 q z w.heap.size l bs cur' w0 w w5 0 (.int .i64 0) x := by
            have hk5 : Keeps [] w w5 := Keeps.of_below W.out.2.2.1 (Nat.le_refl _)
            refine ⟨by omega, rfl, X.out.2.2.2.2.2.2.1.keeps hk5 (by simp), ?_, hk5.below X.out.2.2.2.2.2.1.size (by simp), W.out.1⟩
            have h0 := World.ownsRow.kept (w' := w5) (row := none) X.out.2.2.2.2.2.2.2.1 ⟨hk5.os, hk5.tape, hk5.output, hk5.size, fun k hk _ => hk5.block k hk (by simp)⟩ (by cases x.ownBlock <;> simp)
            simpa [apTags, Own] using h0
          have HJ0 := Lib.hid hJ0
          clear hJ0
          go_loopw [39] (fun v wr => ∃ k x', EInv2 q z w.heap.size l bs cur' w0 w wr k v x') (fun v _ => l.length - numOf v)
          case atStart => exact ⟨0, x, HJ0.out⟩
          case round =>
            obtain ⟨k, x', hI⟩ := hrel
            obtain rfl := hI.val
            by_cases hk : k < l.length
            · obtain ⟨kk, val, hlk⟩ : ∃ kk val, l[k]? = some (kk, val) := ⟨l[k].1, l[k].2, List.getElem?_eq_getElem hk⟩
              have hmem : (kk, val) ∈ l := List.mem_of_getElem? hlk
              have b0w : Below w0.heap.size w0 wr := X.out.2.2.2.2.2.1.trans hI.below
              have mb : wr.cell? ⟨b, o, none⟩ = some (.map (some g)) := (b0w.cell (p := ⟨b, o, none⟩) (World.block_lt_of_cell? w0 _ X.out.1)).trans X.out.1
              have hown6 : wr.ownsMap Tryz.prog 66 R0 g n D := ownsMap_block X.out.2.1 (b0w.block g hgl)
              have hkk : kk ≤ 4294967295 := X.out.2.2.2.1.small _ hmem
              obtain ⟨-, v', hat, hrb⟩ := X.out.2.2.2.1.there kk val hmem
              obtain ⟨v1, ps, hrun, hv1⟩ := hown6.lookup tagKeyed Tryz.underlying51 (zeroBytes wr) (zd := .held (.slice none 0 0)) (zp := []) rfl (keyOf_int_mk Tryz.underlying66 (kl32_wf hkk))
              rw [show D.atKey (Lit.int .u32 (kk : Nat)) (.held (.slice none 0 0)) = .held v' from hat _] at hv1
              obtain rfl : v1 = v' := by simp [R0] at hv1; exact hv1.1
              have hz3 : l.length = ss.length := W.out.2.2.2.2.symm
              have mz : wr.cell? ⟨z, k, none⟩ = some (.int .u32 (kk : Nat)) := by
                have h1 : cur'[k]? = some (.int .u32 (kk : Nat)) := by
                  have h2 := congrArg (fun q : List Value => q[k]?) W.out.2.1
                  rw [List.getElem?_take_of_lt (by omega), W.out.2.2.2.1] at h2
                  simpa [hlk] using h2
                have h3 : wr.cell? ⟨z, k, none⟩ = cur'[k]? := by simp [World.cell?, hI.row]
                rw [h3, h1]
              have hal : (bs ++ apTags (l.take k)).length + (apTags [(kk, val)]).length ≤ lim := by
                have h1 := apTags_take l (k + 1)
                rw [apTags_snoc l k _ hlk, List.length_append] at h1
                have := X.out.2.2.2.2.2.2.2.2.1
                simp only [List.length_append]
                omega
              have hC6 := tagPut (w0 := w0) (w := wr) (q := q) (k := kk) (x := x') (v := v1) (bs := bs ++ apTags (l.take k)) (val := val) b0w hrb hq hI.blk hI.own hkk (X.out.2.2.2.2.2.2.2.2.2.2.1 _ hmem) hal
              obtain ⟨sad, scap, rfl, -⟩ : ∃ a cap, v1 = .slice a val.length cap ∧ True := by obtain ⟨a, cap, h, -⟩ := hrb; exact ⟨a, cap, h, trivial⟩
              have C6 := Lib.hid hC6
              have HQ := Lib.hid (And.intro hI (And.intro hlk (And.intro b0w hk)))
              have hk0 : (0 : Int) ≤ (k : Nat) := by omega
              have hk1 : ((k : Nat) : Int) < (l.length : Nat) := by omega
              have hk2 : ((l.length : Nat) : Int) ≤ 4294967295 := by have := X.out.2.2.2.2.2.2.2.2.2.1; omega
              clear hC6 hI hlk b0w hown6 hat hrb hv1 hz3 hal hmem hkk HJ0 hk
              go_wp2_with fail
              refine C6.out.mono ?_
              rintro e w6 ⟨rfl, x6, b6, o6, t6, l6⟩
              have hstep : EInv2 q z w.heap.size l bs cur' w0 w w6 (k + 1) (.int .i64 ((k + 1 : Nat) : Int)) x6 := by
                have hI := HQ.out.1
                refine ⟨by have := HQ.out.2.2.2; omega, rfl, b6, ?_, ⟨t6.os.trans hI.below.os, t6.tape.trans hI.below.tape, t6.output.trans hI.below.output, Nat.le_trans hI.below.size t6.size, fun j hj => (l6.block j hj).trans (X.out.2.2.2.2.2.1.block j hj).symm⟩, ?_⟩
                · rw [apTags_snoc l k _ HQ.out.2.1, ← List.append_assoc]; exact o6
                · have hzl : z < wr.heap.size := (Array.getElem?_eq_some_iff.1 hI.row).1
                  refine (t6.block z hzl (by have := L0.out.2.1; have := I.out.2.2.2.2.2.2.2.2; omega) (fun cr fr h => ?_)).trans hI.row
                  rw [hI.row] at h
                  simp at h
              have HS6 := Lib.hid hstep
              clear C6 b6 o6 t6 l6 hstep
              go_wp2
              go_roundw
              case rel =>
                refine ⟨k + 1, x6, ?_⟩
                have h := HS6.out
                have e1 : ((k + 1 : Nat) : Int) = (k : Int) + 1 := by omega
                rw [e1] at h
                exact h
              case measure =>
                simp only [numOf]
                omega
            · have hkl : k = l.length := by have := hI.le; omega
              have hE : EachPost w0 w q (bs ++ apTags l) (.returned (.tuple #[])) wr := ⟨rfl, x', hI.blk, by have := hI.own; rw [hkl, List.take_length] at this; exact this, hI.below⟩
              have HE := Lib.hid hE
              clear hE hI HJ0
              subst hkl
              go_wp2
              go_end0
              exact HE.out
        · intro x' cc kl yd yp w3 cnt3 hkey hlk hv hat hrg3 hlt hg3 hs3 hen
          obtain ⟨x'', ex, rfl, hk32⟩ := keyK hkey
          obtain rfl := encK_inj ex
          have hrow3 := HR.out.row.kept hg3 (.inr (iter_ne HR.out.row HR.out.hrg))
          have box3 : Blk w3 w1.heap.size [.slice a ss.length c] 84 := (hg3.block _ HR.out.box.lt (by have := RR.out.2; simp; omega)).trans HR.out.box
          have bel3 : Below w.heap.size w w3 := HR.out.below.grown hg3 HR.out.below.size (fun j hj => by cases hj; have := RR.out; omega)
          have hown3 : w3.ownsMap Tryz.prog 66 R0 g n D := hrg3.owns
          have m5 := box3.cell_some (i := 0) rfl
          have hs1 : ss.length + 1 ≤ 4294967295 := by have := HR.out.le; have := X.out.2.2.2.2.2.2.2.2.2.1; omega
          have Y := Lib.hid (And.intro hrow3 (And.intro box3 (And.intro bel3 (And.intro hrg3 (And.intro hlt (And.intro hlk (And.intro hat (And.intro hs1 (And.intro hown3 (And.intro hg3 hk32))))))))))
          have hb1 : ss.length + 1 ≤ maxLen := by unfold maxLen; omega
          have hb2 : (ss.length + 1) * 4 ≤ 140737488355328 := by omega
          have hb3 : w.heap.size ≤ (w3.alloc (.cells #[encK x'] 66)).heap.size := by have := bel3.size; simp; omega
          have Z := Lib.hid (And.intro hb1 (And.intro hb2 hb3))
          have m5' : ∀ ob, (w3.alloc ob).cell? ⟨w1.heap.size, 0, none⟩ = some (.slice a ss.length c) := fun ob => (World.cell?_of_block (Below.heap_alloc w3 ob _ box3.lt)).trans m5
          clear hs3 hrow3 box3 bel3 hrg3 hlt hlk hat hs1 hown3 hg3 hk32 hkey hv hb1 hb2 hb3
          go_wp2_with (first
            | (at_builtin; refine wpList_append_own _ rfl _ _ 84 rfl w.heap.size 66 i0 (.int .u32 0) 1 4 Tryz.underlying84 I.out.1 I.out.2.1 I.out.2.2.1 I.out.2.2.2.1 rfl (by decide) _ _ _ rfl (Y.out.1.alloc _) ⟨w3.heap.size, 0, none⟩ 1 1 [encK x'] rfl rfl (cell_one_new _ _ _) (by simp [Value.oneCell', encK]) Z.out.1 Z.out.2.1 Z.out.2.2 ?_; intro v' w4 hown' hg4 hnil4
               have hnn' : v' ≠ .slice none 0 0 := fun hv' => by have := (hnil4.1 hv').2; omega
               clear hnil4
               obtain ⟨a4, c4, rfl, ha4⟩ := row_shape hown' hnn'
               have box4 : Blk w4 w1.heap.size [.slice a ss.length c] 84 := (hg4.block _ (by have := Y.out.2.1.lt; simp; omega) (fun e => blk_ne Y.out.1 Y.out.2.1 (by decide) e.symm)).trans (Y.out.2.1.keeps ((Keeps.refl [] w3).alloc _) (by simp))
               have m6 := box4.cell_some (i := 0) rfl
               have f6 := box4.frozen 0
               have U := Lib.hid (And.intro hown' (And.intro hg4 (And.intro box4 ha4)))
               clear hown' hg4 box4 ha4 hnn')
            | go_in)
          have e1 : (ss ++ [x']).length = ss.length + 1 := by simp
          have p4r : w1.heap.size ≠ r := by have := RR.out; omega
          have p4g : w1.heap.size ≠ g := by have := RR.out; have := I.out.2.2.2.2.2.2.2.1; omega
          have rg4 := (((Y.out.2.2.2.1.alloc (.cells #[.int .u32 (x' : Nat)] 66)).kept U.out.2.1 (fun e => map_ne Y.out.1 Y.out.2.2.2.2.2.2.2.2.1 e.symm) (fun e => iter_ne Y.out.1 Y.out.2.2.2.1 e.symm)).kept (grown_setCell w4 w1.heap.size 0 (.slice a4 (ss.length + 1) c4)) (by simpa using fun e => p4g e.symm) (by simpa using fun e => p4r e.symm))
          refine ⟨⟨_, cnt3, ss ++ [x'], a4, c4, rg4, ?_, ?_, ?_, U.out.2.2.2, HR.out.coll.step Y.out.2.2.2.2.2.1 Y.out.2.2.2.2.2.2.1, ?_⟩, ?_⟩
          · have := HR.out.le; have := Y.out.2.2.2.2.1; omega
          · rw [e1]; exact U.out.2.2.1.set 0 _
          · rw [e1]
            have h := U.out.1.kept (grown_setCell w4 w1.heap.size 0 (.slice a4 (ss.length + 1) c4)) (.inr (blk_ne U.out.1 U.out.2.2.1 (by decide)))
            simpa using h
          · exact (((Y.out.2.2.1.alloc Y.out.2.2.1.size _).grown U.out.2.1 (by have := Y.out.2.2.1.size; simp; omega) (fun j hj => (Y.out.1.lt j hj).1))).setCell (show w.heap.size ≤ w1.heap.size from RR.out.1) _
          · rw [rg4.left_eq, HR.out.hrg.left_eq]; exact Y.out.2.2.2.2.1
set_option maxHeartbeats 1000000 in
theorem tagsAppend (hS : SortSpec) {w0 w : World} {b o : Nat} {v : Value} {bs : List UInt8} {l : List (Nat × List UInt8)} (h : TagMem [] w0 b o l) (hB : Below w0.heap.size w0 w) (hown : Own w0.heap.size w v bs) (hl : bs.length + (apTags l).length ≤ lim) :
    Calls Tryz.prog 44 #[.pointer (some ⟨b, o, none⟩), v] w (Appended w0.heap.size w (bs ++ apTags l)) := by
  obtain ⟨ya, yc, hx⟩ := own_shape hown
  generalize bs.length = yn at hx
  subst hx
  have hb1 : Blk (w.alloc (.cells #[.slice ya yn yc] 22)) w.heap.size [.slice ya yn yc] 22 := heap_alloc_new w _
  have hal : Below w0.heap.size w (w.alloc (.cells #[.slice ya yn yc] 22)) := (Below.refl _ _).alloc hB.size _
  have C := Lib.hid (tagsEach hS h (hB.trans hal) hB.size hb1 (World.ownsRow.alloc hown _) hl)
  have X := Lib.hid (And.intro hal trivial)
  clear h hB hown hl hb1 hal
  go_enter Tryz.func44, Tryz.ntmps44
  go_wp2_with fail
  refine C.out.mono ?_
  rintro e w1 ⟨rfl, x1, b1, o1, l1⟩
  have m1 := b1.cell_some (i := 0) rfl
  have Y := Lib.hid (And.intro o1 l1)
  clear b1 o1 l1 C
  go_wp2
  go_ret
  exact .mk Y.out.1 (X.out.1.trans Y.out.2)
theorem tagsOK (hS : SortSpec) : TagsOK TagMem Tryz.prog 43 44 := by
  intro w0 b o l h
  have hlen : l.length ≤ 4294967295 := by obtain ⟨m, n, D, -, -, -, -, -, h6, -⟩ := h; exact h6
  exact ⟨hlen, fun w hb => tagsLen h hb, fun w v bs hb hown hl => tagsAppend hS h hb hown hl⟩
end Go.Proofs.YtmpilpgabelmiaaGreatDoor

/-
  DERIVED: THE SHELF's CONTRACTS AT THIS DUMP, IN PLAIN WORDS (tools/lay-plain.mjs out of 'TryzShelf.lean', which tools/lay-shelf.mjs wrote): THE SAME DECLARATIONS UNDER THE SAME NAMES: 'import', 'namespace', 'open', 'def', 'theorem' AND NOTHING ELSE: no command of the shelf's: FOR A HAND-IN. Each laying: the table of numbers ('.._ren') and one theorem, a field a fact of the dump's own or the kernel's comparison; each contract: ONE APPLICATION.
-/
namespace Go.Proofs
open Go.Shelf
def Tryz.laysGg6_ren : Go.Shelf.Ren := ⟨fun | 6 => 96 | 10 => 99 | 11 => 100 | 12 => 101 | 13 => 102 | 14 => 103 | 24 => 95 | 25 => 113 | 26 => 114 | 27 => 115 | 28 => 116 | 29 => 117 | 30 => 118 | 31 => 119 | 32 => 120 | 33 => 121 | 34 => 122 | 35 => 123 | 36 => 124 | 37 => 125 | 38 => 126 | 39 => 127 | n => n, fun | 20 => 20 | 26 => 142 | 35 => 147 | 0 => 0 | 37 => 149 | 3 => 3 | 41 => 124 | 44 => 154 | 49 => 66 | 51 => 95 | 4 => 4 | 54 => 161 | 53 => 160 | 58 => 165 | 5 => 5 | 9 => 9 | 60 => 167 | 64 => 170 | 66 => 172 | 67 => 173 | 17 => 17 | 32 => 144 | 33 => 145 | 82 => 188 | 12 => 12 | 75 => 181 | 76 => 182 | 77 => 183 | 78 => 184 | 79 => 185 | 80 => 186 | n => n, fun | n => n⟩
theorem Tryz.laysGg6 : Go.Proofs.LaysGg.n6 Tryz.prog Tryz.laysGg6_ren := {
  mixed := by kernel_rfl
  f6 := Tryz.func96.trans (congrArg some (by kernel_rfl))
  f10 := Tryz.func99.trans (congrArg some (by kernel_rfl))
  f11 := Tryz.func100.trans (congrArg some (by kernel_rfl))
  f12 := Tryz.func101.trans (congrArg some (by kernel_rfl))
  f13 := Tryz.func102.trans (congrArg some (by kernel_rfl))
  f14 := Tryz.func103.trans (congrArg some (by kernel_rfl))
  f24 := Tryz.func95.trans (congrArg some (by kernel_rfl))
  f25 := Tryz.func113.trans (congrArg some (by kernel_rfl))
  f26 := Tryz.func114.trans (congrArg some (by kernel_rfl))
  f27 := Tryz.func115.trans (congrArg some (by kernel_rfl))
  f28 := Tryz.func116.trans (congrArg some (by kernel_rfl))
  f29 := Tryz.func117.trans (congrArg some (by kernel_rfl))
  f30 := Tryz.func118.trans (congrArg some (by kernel_rfl))
  f31 := Tryz.func119.trans (congrArg some (by kernel_rfl))
  f32 := Tryz.func120.trans (congrArg some (by kernel_rfl))
  f33 := Tryz.func121.trans (congrArg some (by kernel_rfl))
  f34 := Tryz.func122.trans (congrArg some (by kernel_rfl))
  f35 := Tryz.func123.trans (congrArg some (by kernel_rfl))
  f36 := Tryz.func124.trans (congrArg some (by kernel_rfl))
  f37 := Tryz.func125.trans (congrArg some (by kernel_rfl))
  f38 := Tryz.func126.trans (congrArg some (by kernel_rfl))
  f39 := Tryz.func127.trans (congrArg some (by kernel_rfl))
  t0 := Tryz.underlying0
  a0 := Tryz.isAgg0
  z0 := Tryz.sizeOf0
  v0 := Tryz.zeroValue0
  i0 := by kernel_rfl
  t3 := Tryz.underlying3
  a3 := Tryz.isAgg3
  z3 := Tryz.sizeOf3
  v3 := Tryz.zeroValue3
  i3 := by kernel_rfl
  t4 := Tryz.underlying4
  a4 := Tryz.isAgg4
  z4 := Tryz.sizeOf4
  v4 := Tryz.zeroValue4
  i4 := by kernel_rfl
  t5 := Tryz.underlying5
  a5 := Tryz.isAgg5
  z5 := Tryz.sizeOf5
  v5 := Tryz.zeroValue5
  i5 := by kernel_rfl
  t9 := Tryz.underlying9
  a9 := Tryz.isAgg9
  z9 := Tryz.sizeOf9
  v9 := Tryz.zeroValue9
  i9 := by kernel_rfl
  t12 := Tryz.underlying12
  a12 := Tryz.isAgg12
  z12 := Tryz.sizeOf12
  v12 := Tryz.zeroValue12
  i12 := by kernel_rfl
  t17 := Tryz.underlying17
  a17 := Tryz.isAgg17
  z17 := Tryz.sizeOf17
  v17 := Tryz.zeroValue17
  i17 := by kernel_rfl
  t20 := Tryz.underlying20
  a20 := Tryz.isAgg20
  z20 := Tryz.sizeOf20
  v20 := Tryz.zeroValue20
  i20 := by kernel_rfl
  t26 := Tryz.underlying142
  a26 := Tryz.isAgg142
  z26 := Tryz.sizeOf142
  v26 := Tryz.zeroValue142
  i26 := by kernel_rfl
  t32 := Tryz.underlying144
  a32 := Tryz.isAgg144
  z32 := Tryz.sizeOf144
  v32 := Tryz.zeroValue144
  i32 := by kernel_rfl
  t33 := Tryz.underlying145
  a33 := Tryz.isAgg145
  z33 := Tryz.sizeOf145
  v33 := Tryz.zeroValue145
  i33 := by kernel_rfl
  t35 := Tryz.underlying147
  a35 := Tryz.isAgg147
  z35 := Tryz.sizeOf147
  v35 := Tryz.zeroValue147
  i35 := by kernel_rfl
  t37 := Tryz.underlying149
  a37 := Tryz.isAgg149
  z37 := Tryz.sizeOf149
  v37 := Tryz.zeroValue149
  i37 := by kernel_rfl
  t41 := Tryz.underlying124
  a41 := Tryz.isAgg124
  z41 := Tryz.sizeOf124
  v41 := Tryz.zeroValue124
  i41 := by kernel_rfl
  t44 := Tryz.underlying154
  a44 := Tryz.isAgg154
  z44 := Tryz.sizeOf154
  v44 := Tryz.zeroValue154
  i44 := by kernel_rfl
  t49 := Tryz.underlying66
  a49 := Tryz.isAgg66
  z49 := Tryz.sizeOf66
  v49 := Tryz.zeroValue66
  i49 := by kernel_rfl
  t51 := Tryz.underlying95
  a51 := Tryz.isAgg95
  z51 := Tryz.sizeOf95
  v51 := Tryz.zeroValue95
  i51 := by kernel_rfl
  t53 := Tryz.underlying160
  a53 := Tryz.isAgg160
  z53 := Tryz.sizeOf160
  v53 := Tryz.zeroValue160
  i53 := by kernel_rfl
  t54 := Tryz.underlying161
  a54 := Tryz.isAgg161
  z54 := Tryz.sizeOf161
  v54 := Tryz.zeroValue161
  i54 := by kernel_rfl
  t58 := Tryz.underlying165
  a58 := Tryz.isAgg165
  z58 := Tryz.sizeOf165
  v58 := Tryz.zeroValue165
  i58 := by kernel_rfl
  t60 := Tryz.underlying167
  a60 := Tryz.isAgg167
  z60 := Tryz.sizeOf167
  v60 := Tryz.zeroValue167
  i60 := by kernel_rfl
  t64 := Tryz.underlying170
  a64 := Tryz.isAgg170
  z64 := Tryz.sizeOf170
  v64 := Tryz.zeroValue170
  i64 := by kernel_rfl
  t66 := Tryz.underlying172
  a66 := Tryz.isAgg172
  z66 := Tryz.sizeOf172
  v66 := Tryz.zeroValue172
  i66 := by kernel_rfl
  t67 := Tryz.underlying173
  a67 := Tryz.isAgg173
  z67 := Tryz.sizeOf173
  v67 := Tryz.zeroValue173
  i67 := by kernel_rfl
  t75 := Tryz.underlying181
  a75 := Tryz.isAgg181
  z75 := Tryz.sizeOf181
  v75 := Tryz.zeroValue181
  i75 := by kernel_rfl
  t76 := Tryz.underlying182
  a76 := Tryz.isAgg182
  z76 := Tryz.sizeOf182
  v76 := Tryz.zeroValue182
  i76 := by kernel_rfl
  t77 := Tryz.underlying183
  a77 := Tryz.isAgg183
  z77 := Tryz.sizeOf183
  v77 := Tryz.zeroValue183
  i77 := by kernel_rfl
  t78 := Tryz.underlying184
  a78 := Tryz.isAgg184
  z78 := Tryz.sizeOf184
  v78 := Tryz.zeroValue184
  i78 := by kernel_rfl
  t79 := Tryz.underlying185
  a79 := Tryz.isAgg185
  z79 := Tryz.sizeOf185
  v79 := Tryz.zeroValue185
  i79 := by kernel_rfl
  t80 := Tryz.underlying186
  a80 := Tryz.isAgg186
  z80 := Tryz.sizeOf186
  v80 := Tryz.zeroValue186
  i80 := by kernel_rfl
  t82 := Tryz.underlying188
  a82 := Tryz.isAgg188
  z82 := Tryz.sizeOf188
  v82 := Tryz.zeroValue188
  i82 := by kernel_rfl }
open Go.RowKit Go.Lib Go.Sort in
/-- **sort.Slice AT NO ELEMENT OR ONE.** (LAID: no walk: one application.) -/
theorem Tryz.sort_Slice_tiny (t e : TypeId) (i ie : TypeInfo) (hi : Tryz.prog.info? t = some i) (hd : i.desc = .slice e) (hpk : Tryz.prog.packed t = false) (hie : Tryz.prog.info? e = some ie) (ke : Nat) (hke : ∀ w, (Extern.Rtype.kind e).run Tryz.prog w = .ok ke w) (p : Option Addr) (n c : Nat) (h1 : n ≤ 1) (f : Nat) (hf : Tryz.prog.funcs.findIdx? (·.name == "internal/reflectlite" ++ ".Swapper$" ++ toString (swapperK n ie ke)) = some f) (lf : Fn) (la lb : Array Value) (w : World) :
    Calls Tryz.prog 96 #[.iface t (.slice p n c), .func lf la lb] w fun e w' => e = .returned (.tuple #[]) ∧ ∃ os, w' = grow w os := Any.sort_Slice_tiny Tryz.laysGg6 t e i ie hi hd hpk hie ke hke p n c h1 f hf lf la lb w
open Go.RowKit Go.Lib Go.Sort in
/-- **sort.Slice, IN THE DOCUMENTATION's OWN TERMS: A PERMUTATION OF WHAT THE ROW HELD, SORTED BY 'lt'.** Which of two equals comes first is left open. (LAID: no walk: one application.) -/
theorem Tryz.sort_Slice_sorted {α : Type} [Inhabited α] (t e : TypeId) (i ie : TypeInfo) (hi : Tryz.prog.info? t = some i) (hd : i.desc = .slice e) (hpk : Tryz.prog.packed t = false) (hie : Tryz.prog.info? e = some ie) (ke : Nat) (hke : ∀ w, (Extern.Rtype.kind e).run Tryz.prog w = .ok ke w) (hs1 : ie.size = 1) (hagg : ∀ w, (isAgg e).run Tryz.prog w = .ok false w) (enc : α → Value) (h1 : ∀ x, (enc x).oneCell' = true) (lt : α → α → Bool) (hO : SWO lt) (g : Nat) (lb : Array Value) (eg : ∀ args w, (callFunc g args).run Tryz.prog w = .ok (.enter g args) w) (blk off c : Nat) (d : Array α) (h2 : 2 ≤ d.size) (hsz : d.size < 4611686018427387904) (f : Nat) (hf : Tryz.prog.funcs.findIdx? (·.name == "internal/reflectlite" ++ ".Swapper$" ++ toString (swapperK d.size ie ke)) = some f) (gS : Bool) (hx : ∀ args W, (callFunc f args).run Tryz.prog W = ((Extern.ReflectliteSwapper.swap gS args).run Tryz.prog W).andThen fun v w' => .ok (.value v) w') (w : World) (hless : LessReads Tryz.prog g lb enc lt blk off d.size w) (hH : Holds enc w blk off d) (hblk : blk < w.heap.size) :
    Calls Tryz.prog 96 #[.iface t (.slice (some ⟨blk, off, none⟩) d.size c), .func (.func g) #[] lb] w fun e w' =>
      e = .returned (.tuple #[]) ∧ ∃ d' n os, PermIn 0 d.size d d' ∧ SortedIn lt 0 d.size d' ∧ w' = grow (putRow enc (Sort.ahead w n) blk off d') os := Any.sort_Slice_sorted Tryz.laysGg6 t e i ie hi hd hpk hie ke hke hs1 hagg enc h1 lt hO g lb eg blk off c d h2 hsz f hf gS hx w hless hH hblk
end Go.Proofs

/- Unknown tags: their keys, sorted by Go's own sort.Slice. -/
namespace Go.Proofs.YtmpilpgabelmiaaGreatDoor
open Go Go.RowKit Go.Sort Go.Lib
set_option linter.unusedVariables false

noncomputable def siT : TypeInfo := (Tryz.prog.info? 84).get (by kernel_rfl)
noncomputable def siE : TypeInfo := (Tryz.prog.info? 66).get (by kernel_rfl)
theorem siK (n : Nat) (h2 : 2 ≤ n) : Lib.swapperK n siE 10 = 6 := by
  have a : siE.hasPointers = false := by kernel_rfl
  have b : siE.bytes = 4 := by kernel_rfl
  have c : (n == 0) = false := by simp; omega
  have d : (n == 1) = false := by simp; omega
  simp [Lib.swapperK, a, b, c, d]
def ltN (x y : Nat) : Bool := decide (x < y)
theorem swoN : SWO ltN where
  irrefl x := by simp [ltN]
  trans x y z h1 h2 := by simp only [ltN, decide_eq_true_eq] at *; omega
  ntrans x y z h1 h2 := by simp only [ltN, decide_eq_false_iff_not] at *; omega
theorem holdsK {w : World} {g : Nat} {cur : Array Value} {e : TypeId} {ss : List Nat} (hb : w.heap[g]? = some (.cells cur e (0, 0))) (ht : cur.toList.take ss.length = ss.map encK) : Go.Sort.Holds encK w g 0 ss.toArray := by
  intro j hj
  have hj' : j < ss.length := by simpa using hj
  refine ⟨?_, by simp [World.frozen?, hb]⟩
  have h1 : (cur.toList.take ss.length)[j]? = (ss.map encK)[j]? := by rw [ht]
  rw [List.getElem?_take_of_lt hj'] at h1
  simp only [World.cell?, hb, Nat.zero_add]
  simp only [Option.isSome_none, Bool.false_eq_true, if_false]
  rw [← Array.getElem?_toList, h1]
  simp [hj']
theorem heapK {w : World} {g n : Nat} {os : Array Obj} {cur : Array Value} {e : TypeId} {fr : Nat × Nat} (d : Array Nat) (hb : w.heap[g]? = some (.cells cur e fr)) :
    (grow (putRow encK (Sort.ahead w n) g 0 d) os).heap[g]? = some (.cells (putCells encK 0 d cur) e fr) := by
  have hg : g < w.heap.size := (Array.getElem?_eq_some_iff.1 hb).1
  rw [heap_grow_old _ _ (by simpa using hg)]
  simp [putRow, mapBlock, Sort.ahead, Array.getElem?_modify, hb, onCells]
theorem grownK {w : World} {g n : Nat} {os : Array Obj} (d : Array Nat) : w.grownBy (grow (putRow encK (Sort.ahead w n) g 0 d) os) (some g) := by
  refine ⟨rfl, rfl, rfl, by simp, fun k hk hne => ?_⟩
  rw [heap_grow_old _ _ (by simpa using hk)]
  have : g ≠ k := fun e => hne (by rw [e])
  simp [putRow, mapBlock, Sort.ahead, Array.getElem?_modify, this]
theorem takeK (cur : Array Value) (ts : List Nat) (h : ts.length ≤ cur.size) : (putCells encK 0 ts.toArray cur).toList.take ts.length = ts.map encK := by
  apply List.ext_getElem?
  intro j
  by_cases hj : j < ts.length
  · rw [List.getElem?_take_of_lt hj, Array.getElem?_toList]
    simp [putCells, hj, show j < cur.size by omega]
  · rw [List.getElem?_take_eq_none (by omega), List.getElem?_eq_none (by simp; omega)]
set_option maxHeartbeats 2000000 in
/-- 'func(i, j int) bool { return ordered[i] < ordered[j] }'. -/
theorem tagLess (blk c Bs size : Nat) (W : World) (G : Nat → Nat) (hs : W.cell? ⟨Bs, 0, none⟩ = some (.slice (some ⟨blk, 0, none⟩) size c)) (hc : ∀ t, t < size → W.cell? ⟨blk, 0 + t, none⟩ = some (.int .u32 (G t : Nat))) (i j : Nat) (hi : i < size) (hj : j < size) :
    Calls Tryz.prog 97 #[.int .i64 i, .int .i64 j, .pointer (some ⟨Bs, 0, none⟩)] W fun e w' => e = .returned (.bool (ltN (G i) (G j))) ∧ ∃ q, w' = W.drewN q := by
  have ci := hc i hi
  have cj := hc j hj
  rw [Nat.zero_add] at ci cj
  go_enter Tryz.func97, Tryz.ntmps97
  go_wp2
  go_quiet (fail)
  go_wp2
  go_ret
  exact ⟨by simp [ltN], nq, rfl⟩
theorem short_sorted : ∀ ks : List Nat, ¬ 2 ≤ ks.length → ks.Pairwise (· ≤ ·)
  | [], _ => List.Pairwise.nil
  | [x], _ => by simp
  | x :: y :: r, h => absurd (by simp) h
set_option maxHeartbeats 2000000 in
theorem sortOK : SortSpec := by
  intro w z c p ks cur hz ht hp hl
  have hzl : z < w.heap.size := (Array.getElem?_eq_some_iff.1 hz).1
  have hH := holdsK hz ht
  have hlen : ks.length ≤ cur.size := by
    have := congrArg List.length ht
    simp at this
    omega
  have hzp : p ≠ z := by
    rintro rfl
    unfold Blk at hp
    rw [hz] at hp
    simp at hp
  by_cases h2 : 2 ≤ ks.length
  · have hless : LessReads Tryz.prog 97 #[.pointer (some ⟨p, 0, none⟩)] encK ltN z 0 ks.toArray.size w := by
      intro m os dk hs i j hi hj
      have hHg : Go.Sort.Holds encK (Sort.ahead w m) z 0 ks.toArray := holds_ahead _ _ _ _ _ _ hH
      refine tagLess z c p ks.toArray.size _ (fun t => dk[t]!) ?_ (fun t ht => ?_) i j hi hj
      · unfold sortWorld
        rw [cell?_grow _ _ _ (by simpa using hp.lt), cell?_putRow_other _ _ z 0 dk _ (Or.inl hzp)]
        have := hp.cell_some (i := 0) rfl
        exact this
      · unfold sortWorld
        rw [cell?_grow _ _ _ (by simpa using hzl)]
        exact cell?_putRow _ _ z 0 ks.toArray dk hHg hs t (by omega)
    have hS := Tryz.sort_Slice_sorted 84 66 siT siE (by kernel_rfl) (by kernel_rfl) (by kernel_rfl) (by kernel_rfl) 10 (fun _ => by kernel_rfl) (by kernel_rfl) (fun _ => by kernel_rfl) encK (fun _ => rfl) ltN swoN 97 _
      (enters_of Tryz.func97 (by kernel_rfl) rfl) z 0 c ks.toArray (by simpa using h2) (by simp; omega) 109 (by rw [siK _ (by simpa using h2)]; kernel_rfl) true
      (fun args W => run_callFunc_extern Tryz.func109 (by kernel_rfl) (by kernel_rfl) (by kernel_rfl) (e := Extern.ReflectliteSwapper.swap true) (by kernel_rfl) args W) w hless hH hzl
    have e0 : ks.toArray.size = ks.length := by simp
    rw [e0] at hS
    refine hS.mono ?_
    rintro e w' ⟨rfl, d', n, os, hpm, hso, rfl⟩
    have hpm' : PermIn 0 ks.toArray.size ks.toArray d' := by rw [e0]; exact hpm
    have hso' : SortedIn ltN 0 ks.toArray.size d' := by rw [e0]; exact hso
    obtain ⟨hsz, -, hperm⟩ := hpm'
    have e1 : d'.extract 0 ks.toArray.size = d' := by rw [← hsz]; exact Array.extract_size
    rw [e1, Array.extract_size] at hperm
    have hd : d'.toList.toArray = d' := by simp
    refine ⟨rfl, d'.toList, putCells encK 0 d' cur, hperm, ?_, heapK d' hz, ?_, grownK d'⟩
    · refine List.pairwise_iff_getElem.2 fun i j hi hj hij => ?_
      have h := hso' i j (Nat.zero_le _) hij (by rw [← hsz]; simpa using hj)
      simp only [ltN, decide_eq_false_iff_not] at h
      simp at hi hj
      rw [getElem!_pos d' i hi, getElem!_pos d' j hj] at h
      simp only [Array.getElem_toList]
      omega
    · have h := takeK cur d'.toList (by simp; omega)
      rw [hd] at h
      have e2 : d'.toList.length = ks.length := by simp; omega
      rw [e2] at h
      exact h
  · have hS : Calls Tryz.prog 96 #[.iface 84 (.slice (some ⟨z, 0, none⟩) ks.length c), .func (.func 97) #[] #[.pointer (some ⟨p, 0, none⟩)]] w fun e w' => e = .returned (.tuple #[]) ∧ ∃ os, w' = grow w os := by
      rcases Nat.eq_zero_or_pos ks.length with h | h
      · rw [h]
        exact Tryz.sort_Slice_tiny 84 66 siT siE (by kernel_rfl) (by kernel_rfl) (by kernel_rfl) (by kernel_rfl) 10 (fun _ => by kernel_rfl) (some ⟨z, 0, none⟩) 0 c (by omega) 104 (by rw [show Lib.swapperK 0 siE 10 = 1 by simp [Lib.swapperK]]; kernel_rfl) (.func 97) #[] #[.pointer (some ⟨p, 0, none⟩)] w
      · have h : ks.length = 1 := by omega
        rw [h]
        exact Tryz.sort_Slice_tiny 84 66 siT siE (by kernel_rfl) (by kernel_rfl) (by kernel_rfl) (by kernel_rfl) 10 (fun _ => by kernel_rfl) (some ⟨z, 0, none⟩) 1 c (by omega) 105 (by rw [show Lib.swapperK 1 siE 10 = 2 by simp [Lib.swapperK]]; kernel_rfl) (.func 97) #[] #[.pointer (some ⟨p, 0, none⟩)] w
    refine hS.mono ?_
    rintro e w' ⟨rfl, os, rfl⟩
    refine ⟨rfl, ks, cur, List.Perm.refl _, ?_, ?_, ht, ?_⟩
    · exact short_sorted ks h2
    · rw [heap_grow_old _ _ hzl]; exact hz
    · exact ⟨rfl, rfl, rfl, by simp, fun k hk _ => heap_grow_old _ _ hk⟩
end Go.Proofs.YtmpilpgabelmiaaGreatDoor

/- Tags: what is written of none. -/
namespace Go.Proofs.YtmpilpgabelmiaaGreatDoor
open Go Go.RowKit
set_option maxHeartbeats 400000 in
theorem tagsLen0 (a : Addr) (w : World) (hc : w.cell? a = some (.map none)) : Calls Tryz.prog 43 #[.pointer (some a)] w fun e w' => e = .returned (.int .i64 0) ∧ w = w' := by
  go_enter Tryz.func43, Tryz.ntmps43
  go_wp2
  go_ret
  exact ⟨rfl, rfl⟩
set_option maxHeartbeats 400000 in
theorem tagsEach0 (a : Addr) (fn : Value) (w : World) (hc : w.cell? a = some (.map none)) : Calls Tryz.prog 78 #[.pointer (some a), fn] w fun e w' => e = .returned (.tuple #[]) ∧ w = w' := by
  go_enter Tryz.func78, Tryz.ntmps78
  go_wp2
  exact bodyPost_ret (results_none rfl _ _ _) rfl ⟨rfl, rfl⟩
set_option maxHeartbeats 400000 in
theorem appendEach0 (a : Addr) (base : Nat) (w : World) (v : Value) (bs : List UInt8) (hc : w.cell? a = some (.map none)) (hown : Own base w v bs) (hb : base ≤ w.heap.size) :
    Calls Tryz.prog 44 #[.pointer (some a), v] w (Appended base w bs) := by
  have hlt : a.block < w.heap.size := World.block_lt_of_cell? w a hc
  have hv : ∃ ad n c, v = .slice ad n c := by
    rcases hown.2 with ⟨rfl, -⟩ | ⟨g, cap, cur, rfl, -⟩
    · exact ⟨_, _, _, rfl⟩
    · exact ⟨_, _, _, rfl⟩
  obtain ⟨ad, n, c, rfl⟩ := hv
  go_enter Tryz.func44, Tryz.ntmps44
  go_wp2_with fail
  refine (tagsEach0 a _ _ ?_).mono ?_
  · rw [World.cell?_alloc_lt _ _ _ hlt]; exact hc
  rintro e w' ⟨rfl, rfl⟩
  go_wp2
  go_ret
  exact .mk (hown.alloc _) ((Below.refl _ _).alloc hb _)
end Go.Proofs.YtmpilpgabelmiaaGreatDoor

/- The kinds of fields, each with the function that writes it, at this program. -/
namespace Go.Proofs.YtmpilpgabelmiaaGreatDoor
open Go Go.RowKit

theorem kok2 {N lo t a b : Nat} {x y : Value} (h : (a ≠ 1 ∧ (a < lo ∨ (N ≤ a ∧ a < t))) ∧ (b ≠ 1 ∧ (b < lo ∨ (N ≤ b ∧ b < t)))) : KOK N lo t [(a, x), (b, y)] := by
  intro p hp
  simp only [List.mem_cons, List.not_mem_nil, or_false] at hp
  rcases hp with rfl | rfl
  · exact h.1
  · exact h.2
theorem kok1 {N lo t a : Nat} {x : Value} (h : a ≠ 1 ∧ (a < lo ∨ (N ≤ a ∧ a < t))) : KOK N lo t [(a, x)] := by
  intro p hp
  simp only [List.mem_cons, List.not_mem_nil, or_false] at hp
  subst hp
  exact h
theorem mem2a {p q : Nat × Value} : p ∈ [p, q] := List.mem_cons_self ..
theorem mem2b {p q : Nat × Value} : q ∈ [p, q] := List.mem_cons_of_mem _ (List.mem_cons_self ..)
theorem mem1a {p : Nat × Value} : p ∈ [p] := List.mem_cons_self ..

theorem str_size (l : List UInt8) : (ByteArray.mk l.toArray).size = l.length := by simp [ByteArray.size]
theorem str_data (l : List UInt8) : (ByteArray.mk l.toArray).data.toList = l := by simp
theorem cell_eq {w : World} {ad : Addr} {x y : Value} (h : w.cell? ad = some x) (h' : w.cell? ad = some y) : x = y := Option.some.inj (h.symm.trans h')

theorem leaf_i8 (ver : Int) (flex : Bool) : LeafOK Tryz.prog ver flex 35 .i8 := by
  intro w0 b o x v hr hc
  cases v <;> simp only [RepLeaf] at hr <;> try exact hr.elim
  obtain ⟨h1, h2, h3⟩ := hr
  obtain rfl := cell_eq h1 hc
  exact (appendInt8 _ h2 h3).at
theorem leaf_i16 (ver : Int) (flex : Bool) : LeafOK Tryz.prog ver flex 32 .i16 := by
  intro w0 b o x v hr hc
  cases v <;> simp only [RepLeaf] at hr <;> try exact hr.elim
  obtain ⟨h1, h2, h3⟩ := hr
  obtain rfl := cell_eq h1 hc
  exact (appendInt16 _ h2 h3).at
theorem leaf_i32 (ver : Int) (flex : Bool) : LeafOK Tryz.prog ver flex 34 .i32 := by
  intro w0 b o x v hr hc
  cases v <;> simp only [RepLeaf] at hr <;> try exact hr.elim
  obtain ⟨h1, h2, h3⟩ := hr
  obtain rfl := cell_eq h1 hc
  exact (appendInt32 _ h2 h3).at
theorem leaf_u16 (ver : Int) (flex : Bool) : LeafOK Tryz.prog ver flex 57 .u16 := by
  intro w0 b o x v hr hc
  cases v <;> simp only [RepLeaf] at hr <;> try exact hr.elim
  obtain ⟨h1, h2, h3⟩ := hr
  obtain rfl := cell_eq h1 hc
  exact (appendUint16 _ h2 h3).at
theorem leaf_i64 (ver : Int) (flex : Bool) : LeafOK Tryz.prog ver flex 33 .i64 := by
  intro w0 b o x v hr hc
  cases v <;> simp only [RepLeaf] at hr <;> try exact hr.elim
  obtain rfl := cell_eq hr hc
  exact (appendInt64 _).at
theorem leaf_bool (ver : Int) (flex : Bool) : LeafOK Tryz.prog ver flex 56 .bool := by
  intro w0 b o x v hr hc
  cases v <;> simp only [RepLeaf] at hr <;> try exact hr.elim
  obtain rfl := cell_eq hr hc
  exact (appendBool _).at
theorem leaf_str_false (ver : Int) : LeafOK Tryz.prog ver false 39 .str := by
  intro w0 b o x v hr hc
  cases v <;> simp only [RepLeaf] at hr <;> try exact hr.elim
  rename_i l
  obtain ⟨h1, h2⟩ := hr
  obtain rfl := cell_eq h1 hc
  have h := (appendString ⟨l.toArray⟩ (by rw [str_size]; simp [strMax] at h2; omega)).at (w0 := w0)
  rw [str_size, str_data] at h
  exact h
theorem leaf_str_true (ver : Int) : LeafOK Tryz.prog ver true 38 .str := by
  intro w0 b o x v hr hc
  cases v <;> simp only [RepLeaf] at hr <;> try exact hr.elim
  rename_i l
  obtain ⟨h1, h2⟩ := hr
  obtain rfl := cell_eq h1 hc
  have h := (appendCompactString ⟨l.toArray⟩ (by rw [str_size]; simp [strMax] at h2; omega)).at (w0 := w0)
  rw [str_size, str_data] at h
  exact h
theorem tags_none : TagsOK noTags Tryz.prog 43 44 := by
  rintro w0 b o l ⟨rfl, hc⟩
  have hlt := World.block_lt_of_cell? w0 _ hc
  refine ⟨by simp, fun w hb => tagsLen0 _ w ((hb.cell hlt).trans hc), fun w v bs hb ho hl => ?_⟩
  have h := appendEach0 ⟨b, o, none⟩ w0.heap.size w v bs ((hb.cell hlt).trans hc) ho hb.size
  simpa [apTags] using h
theorem uvOK (n : Nat) (h : n ≤ 4294967295) : AppC Tryz.prog 42 (.int .u32 n) (uv n) := appendUvarint n h
theorem en_32 : Enters Tryz.prog 32 := Tryz.call32
theorem en_33 : Enters Tryz.prog 33 := Tryz.call33
theorem en_34 : Enters Tryz.prog 34 := Tryz.call34
theorem en_35 : Enters Tryz.prog 35 := Tryz.call35
theorem en_36 : Enters Tryz.prog 36 := Tryz.call36
theorem en_37 : Enters Tryz.prog 37 := Tryz.call37
theorem en_38 : Enters Tryz.prog 38 := Tryz.call38
theorem en_39 : Enters Tryz.prog 39 := Tryz.call39
theorem en_40 : Enters Tryz.prog 40 := Tryz.call40
theorem en_41 : Enters Tryz.prog 41 := Tryz.call41
theorem en_42 : Enters Tryz.prog 42 := Tryz.call42
theorem en_43 : Enters Tryz.prog 43 := Tryz.call43
theorem en_44 : Enters Tryz.prog 44 := Tryz.call44
theorem en_56 : Enters Tryz.prog 56 := Tryz.call56
theorem en_57 : Enters Tryz.prog 57 := Tryz.call57
theorem en_58 : Enters Tryz.prog 58 := Tryz.call58
theorem en_59 : Enters Tryz.prog 59 := Tryz.call59
theorem en_60 : Enters Tryz.prog 60 := Tryz.call60
theorem en_61 : Enters Tryz.prog 61 := Tryz.call61
theorem en_62 : Enters Tryz.prog 62 := Tryz.call62
theorem en_63 : Enters Tryz.prog 63 := Tryz.call63
theorem en_64 : Enters Tryz.prog 64 := Tryz.call64
theorem en_65 : Enters Tryz.prog 65 := Tryz.call65
theorem en_67 : Enters Tryz.prog 67 := Tryz.call67
theorem en_68 : Enters Tryz.prog 68 := Tryz.call68
theorem en_69 : Enters Tryz.prog 69 := Tryz.call69
theorem en_70 : Enters Tryz.prog 70 := Tryz.call70
theorem en_72 : Enters Tryz.prog 72 := Tryz.call72
theorem en_73 : Enters Tryz.prog 73 := Tryz.call73
theorem en_74 : Enters Tryz.prog 74 := Tryz.call74
theorem en_75 : Enters Tryz.prog 75 := Tryz.call75
theorem en_76 : Enters Tryz.prog 76 := Tryz.call76
theorem en_77 : Enters Tryz.prog 77 := Tryz.call77
theorem en_78 : Enters Tryz.prog 78 := Tryz.call78
theorem en_79 : Enters Tryz.prog 79 := Tryz.call79
theorem en_87 : Enters Tryz.prog 87 := Tryz.call87
theorem en_89 : Enters Tryz.prog 89 := Tryz.call89
theorem en_91 : Enters Tryz.prog 91 := Tryz.call91
theorem en_93 : Enters Tryz.prog 93 := Tryz.call93
theorem en_94 : Enters Tryz.prog 94 := Tryz.call94
theorem en_97 : Enters Tryz.prog 97 := Tryz.call97
theorem lenOK_false (n : Nat) (h : n ≤ 2147483647) : AppC Tryz.prog 41 (.int .i64 n) (lenB false n) := appendArrayLen n (by omega)
theorem nlenOK_false (n : Nat) (h : n ≤ 2147483647) : AppC2 Tryz.prog 37 n false (lenB false n) := fun base w v bs ho hb hl => appendNullableArrayLen_false n (by omega) base w v bs ho hb hl
theorem nnulOK_false : AppC2 Tryz.prog 37 0 true (nulB false) := fun base w v bs ho hb hl => appendNullableArrayLen_true 0 (by omega) base w v bs ho hb hl
theorem lenOK_true (n : Nat) (h : n ≤ 2147483647) : AppC Tryz.prog 40 (.int .i64 n) (lenB true n) := appendCompactArrayLen n (by omega)
theorem nlenOK_true (n : Nat) (h : n ≤ 2147483647) : AppC2 Tryz.prog 36 n false (lenB true n) := fun base w v bs ho hb hl => appendCompactNullableArrayLen_false n (by omega) base w v bs ho hb hl
theorem nnulOK_true : AppC2 Tryz.prog 36 0 true (nulB true) := fun base w v bs ho hb hl => appendCompactNullableArrayLen_true 0 (by omega) base w v bs ho hb hl
end Go.Proofs.YtmpilpgabelmiaaGreatDoor

/- Defaults: a part's own values, laid into a fresh part. -/
namespace Go.Proofs.YtmpilpgabelmiaaGreatDoor
open Go Go.RowKit
set_option linter.unusedVariables false

section
variable {P : Program} {nt : Nat} {sch : Sch} {n : Nat}
/-- The code c lays defaults into the part whose address lies in slot 0, into cells from n on. -/
def DefW (P : Program) (nt n : Nat) (sch : Sch) (c : Code) : Prop := ∀ (w : World) (b o T : Nat) (cs : List Value) (a : Act) (Q : Exit → Act → World → Prop), a.tmps.size = nt → a.defers = [] → aget a 0 = .pointer (some ⟨b, o, none⟩) → Blk w b cs T → Fresh cs o sch →
  (∀ a' w' cs', a'.tmps.size = nt → a'.defers = [] → aget a' 0 = .pointer (some ⟨b, o, none⟩) → Blk w' b cs' T → SameOut cs cs' (o + n) (o + top sch) → Keeps [b] w w' → Fresh cs' o sch → Q .normal a' w') → c.wp P Q a w
theorem DefW.skip : DefW P nt n sch .skip := fun w b o T cs a Q h1 h2 h3 h4 h5 hq => wp_skip (hq a w cs h1 h2 h3 h4 (SameOut.refl _ _ _) (Keeps.refl _ _) h5)
theorem DefW.seq {c1 c2 : Code} (h1 : DefW P nt n sch c1) (h2 : DefW P nt n sch c2) : DefW P nt n sch (c1.seq c2) := fun w b o T cs a Q g1 g2 g3 g4 g5 hq => wp_seq (h1 w b o T cs a _ g1 g2 g3 g4 g5 fun a1 w1 cs1 k1 k2 k3 k4 k5 k6 k7 =>
  h2 w1 b o T cs1 a1 _ k1 k2 k3 k4 k7 fun a2 w2 cs2 j1 j2 j3 j4 j5 j6 j7 => hq a2 w2 cs2 j1 j2 j3 j4 (k5.trans j5 ⟨Nat.le_refl _, Nat.le_refl _⟩ ⟨Nat.le_refl _, Nat.le_refl _⟩) (k6.trans j6) j7)
/-- Cell i is none of those that must be empty. -/
def freeAt (i : Nat) : Nat → Sch → Bool
  | _, .leaf _ => true
  | p, .list _ _ _ => decide (p ≠ i)
  | p, .opt _ => decide (p ≠ i)
  | _, .done => true
  | p, .tags off => decide (p + off ≠ i)
  | p, .cons off _ _ f rest => freeAt i (p + off) f && freeAt i p rest
  | p, .ktag off _ f rest => (decide (i < p + off) || decide (p + off + top f ≤ i)) && freeAt i p rest
def leafAt (i : Nat) : Nat → Sch → Bool
  | p, .leaf .uuid => false
  | p, .leaf _ => decide (p = i)
  | p, .cons off _ _ f rest => leafAt i (p + off) f || leafAt i p rest
  | _, _ => false
theorem fresh_set {v : Value} {i o : Nat} : ∀ {s : Sch} {p : Nat} {cs : List Value}, freeAt i p s = true → Fresh cs (o + p) s → Fresh (cs.set (o + i) v) (o + p) s
  | .leaf k, p, cs, h, hF => by cases k <;> simpa only [Fresh, List.length_set] using hF
  | .list _ _ _, p, cs, h, hF => by
    simp only [freeAt, decide_eq_true_eq] at h
    simp only [Fresh] at hF ⊢
    rw [List.getElem?_set_ne (by omega)]
    exact hF
  | .opt _, p, cs, h, hF => by
    simp only [freeAt, decide_eq_true_eq] at h
    simp only [Fresh] at hF ⊢
    rw [List.getElem?_set_ne (by omega)]
    exact hF
  | .done, p, cs, h, hF => trivial
  | .tags off, p, cs, h, hF => by
    simp only [freeAt, decide_eq_true_eq] at h
    simp only [Fresh] at hF ⊢
    rw [List.getElem?_set_ne (by omega)]
    exact hF
  | .cons off lo hi f rest, p, cs, h, hF => by
    simp only [freeAt, Bool.and_eq_true] at h
    simp only [Fresh] at hF ⊢
    refine ⟨?_, fresh_set h.2 hF.2⟩
    rw [Nat.add_assoc] at hF ⊢
    exact fresh_set h.1 hF.1
  | .ktag off d f rest, p, cs, h, hF => by
    simp only [freeAt, Bool.and_eq_true, Bool.or_eq_true, decide_eq_true_eq] at h
    simp only [Fresh] at hF ⊢
    refine ⟨fun k u hk => ?_, fresh_set h.2 hF.2⟩
    have h1 := (List.getElem?_eq_some_iff.1 hk).1
    have h2 := dcells_le f d
    rw [List.getElem?_set_ne (by omega)]
    exact hF.1 k u hk
theorem leaf_lt {i o : Nat} : ∀ {s : Sch} {p : Nat} {cs : List Value}, leafAt i p s = true → Fresh cs (o + p) s → o + i < cs.length
  | .leaf k, p, cs, h, hF => by cases k <;> simp only [leafAt, decide_eq_true_eq, Bool.false_eq_true] at h <;> (subst h; exact hF)
  | .list _ _ _, p, cs, h, hF => by simp [leafAt] at h
  | .opt _, p, cs, h, hF => by simp [leafAt] at h
  | .done, p, cs, h, hF => by simp [leafAt] at h
  | .tags off, p, cs, h, hF => by simp [leafAt] at h
  | .cons off lo hi f rest, p, cs, h, hF => by
    simp only [leafAt, Bool.or_eq_true] at h
    simp only [Fresh] at hF
    rcases h with h | h
    · rw [Nat.add_assoc] at hF
      exact leaf_lt h hF.1
    · exact leaf_lt h hF.2
/-- 'v.F = c'. -/
theorem DefW.one {i t1 T' k U r y1 y2 y3 y4 : Nat} {q1 q2 q3 q4 : String} {g1 g2 g3 g4 : Array Edge} {x : Value} (hT : FieldAt P T' k i) (hU : OneCell P U) (hx : One x) (hf : (freeAt i 0 sch && leafAt i 0 sch && decide (n ≤ i) && decide (i < top sch)) = true) (hd : 0 < t1 ∧ t1 + 2 < nt) :
    DefW P nt n sch (.region r #[⟨some t1, .move (.tmp 0), y1, q1, g1, none⟩, ⟨some (t1 + 1), .nilCheck (.tmp t1), y2, q2, g2, none⟩, ⟨some (t1 + 2), .fieldAddr T' (.tmp (t1 + 1)) k, y3, q3, g3, none⟩, ⟨none, .store U (.tmp (t1 + 2)) (.const x), y4, q4, g4, none⟩] false) := by
  intro w b o T cs a Q hN hdf h0 hB hF hq
  obtain ⟨d1, d2⟩ := hd
  simp only [Bool.and_eq_true, decide_eq_true_eq] at hf
  have hlt : o + i < cs.length := leaf_lt hf.1.1.2 (by simpa using hF)
  refine wp_reg ?_
  refine wl_move h0 ?_
  refine wl_nilCheck (aget_put_same _ _ _ (by omega)) ?_
  refine wl_fieldAddr hT (aget_put_same _ _ _ (by simp only [size_put]; omega)) ?_
  rw [Addr.add_lit]
  refine wl_store (w' := w.setCell ⟨b, o + i, none⟩ x) ?_ ?_
  · rw [aget_eval, aget_put_same _ _ _ (by simp only [size_put]; omega)]
    exact run_store_blk hU hB hlt hx
  · refine wpList_nil (hq _ _ (cs.set (o + i) x) (by simp only [size_put, hN]) (by simp only [defers_put, hdf]) ?_ (hB.set _ _) ((SameOut.set cs (o + i) x).mono (by omega) (by omega)) ((Keeps.refl [b] w).setCell (by simp) _) ?_)
    · rw [aget_put_other _ _ _ _ (by omega), aget_put_other _ _ _ _ (by omega), aget_put_other _ _ _ _ (by omega)]; exact h0
    · have h := fresh_set (v := x) (i := i) (o := o) hf.1.1.1 (by simpa using hF)
      simpa using h
theorem DefW.calls {F : Nat} {fn : Func} {c : Code} (hf : P.funcs[F]? = some fn) (hb : fn.body = some c) (hnt : fn.ntmps = nt) (h1 : 0 < nt) (hr : fn.results = #[]) (h : DefW P nt n sch c) (w : World) (b o T : Nat) (cs : List Value) (hB : Blk w b cs T) (hF : Fresh cs o sch) :
    Calls P F #[.pointer (some ⟨b, o, none⟩)] w fun en w' => ∃ cs', en = .returned (.tuple #[]) ∧ Blk w' b cs' T ∧ SameOut cs cs' (o + n) (o + top sch) ∧ Keeps [b] w w' ∧ Fresh cs' o sch := by
  refine calls_of_wp hf hb ?_
  rw [hnt]
  refine h w b o T cs _ _ ?_ rfl ?_ hB hF fun a' w' cs' k1 k2 k3 k4 k5 k6 k7 => ?_
  · simp; omega
  · simp [aget, Array.getD_eq_getD_getElem?, Array.getElem?_append]
  · exact bodyPost_end (results_none hr _ _ _) k2 ⟨cs', rfl, k4, k5, k6, k7⟩
theorem DefW.defC {F : Nat} {fn : Func} {c : Code} (hf : P.funcs[F]? = some fn) (hb : fn.body = some c) (hnt : fn.ntmps = nt) (h1 : 0 < nt) (hr : fn.results = #[]) (h : DefW P nt 0 sch c) : DefC P F sch :=
  fun w b o T cs hB hF => h.calls hf hb hnt h1 hr w b o T cs hB hF
theorem DefW.defT {F off0 : Nat} {fn : Func} {c : Code} (hf : P.funcs[F]? = some fn) (hb : fn.body = some c) (hnt : fn.ntmps = nt) (h1 : 0 < nt) (hr : fn.results = #[]) (h : DefW P nt n sch c) (hn : off0 < n) (w : World) (b o T : Nat) (cs : List Value) (hB : Blk w b cs T) (hF : Fresh cs o sch) : DefT P F b o T off0 sch w :=
  (h.calls hf hb hnt h1 hr w b o T cs hB hF).mono fun en w' ⟨cs', k1, k2, k3, k4, k5⟩ => ⟨cs', k1, k2, k4, k5, by rw [k2.cell, hB.cell, k3.out _ (.inl (by omega))]⟩
end
end Go.Proofs.YtmpilpgabelmiaaGreatDoor

/- Sixteen octets: read, laid into a part. -/
namespace Go.Proofs.YtmpilpgabelmiaaGreatDoor
open Go Go.RowKit
set_option linter.unusedVariables false

theorem span16 : rdSpan 16 = rdTake 16 := rfl
section
variable {RT : RTags} {P : Program} {N nt gE : Nat} {E : Value} {K : Slots} {lo t : Nat} {ver : Int} {flex : Bool}
/-- What is asked of the function that reads sixteen octets. -/
def UuidRd (P : Program) (F : Nat) : Prop := RdC P F (rdTake 16) (fun O w v s => v = .agg (s.map byteV).toArray) (fun v => ∃ l : List UInt8, l.length = 16 ∧ v = .agg (l.map byteV).toArray)
theorem take_len {k : Nat} {bs s r : List UInt8} (h : rdTake k bs = some (s, r)) : s.length = k := by
  unfold rdTake at h
  split at h
  · cases h; simp; omega
  · cases h
/-- The cells of a block with a row laid into it. -/
def laid (cs : List Value) (i : Nat) (l : List Value) : List Value := cs.take i ++ l ++ cs.drop (i + l.length)
theorem SameOut.laid (cs : List Value) (i : Nat) (l : List Value) (h : i + l.length ≤ cs.length) : SameOut cs (laid cs i l) i (i + l.length) := by
  refine ⟨by simp [Proofs.YtmpilpgabelmiaaGreatDoor.laid]; omega, fun k hk => ?_⟩
  unfold Proofs.YtmpilpgabelmiaaGreatDoor.laid
  rcases hk with hk | hk
  · rw [List.append_assoc, List.getElem?_append_left (by simp; omega), List.getElem?_take_of_lt hk]
  · rw [List.getElem?_append_right (by simp; omega), List.getElem?_drop]
    congr 1
    simp
    omega
theorem laid_get (cs : List Value) (i : Nat) (l : List Value) (h : i + l.length ≤ cs.length) (j : Nat) (hj : j < l.length) : (laid cs i l)[i + j]? = l[j]? := by
  unfold laid
  rw [List.append_assoc, List.getElem?_append_right (by simp; omega), List.getElem?_append_left (by simp; omega)]
  congr 1
  simp
  omega
theorem run_store_many_at {U n : Nat} (hU : ManyCells P U n) {w : World} {b i T : Nat} {cs : List Value} (hB : Blk w b cs T) {l : List Value} (hl : l.length = n) (hi : i + n ≤ cs.length) (h1 : ∀ v ∈ l, v.oneCell' = true) :
    (Instr.storeAt U (.pointer (some ⟨b, i, none⟩)) (.agg l.toArray)).run P w = .ok () (w.setRow b (laid cs i l).toArray) := by
  obtain ⟨it, z, hit, hs, -, -⟩ := hU.info
  have h := run_storeCells_at P b i T l 0 cs.toArray w hB (by simp; omega) h1
  simp only [Nat.add_zero] at h
  simp [Instr.storeAt, Instr.sureAddr, storeVar, sizeOf, typeInfo, hit, Value.cells, hl, hs, h, laid]
theorem bytes_one (l : List UInt8) : ∀ x ∈ l.map byteV, x.oneCell' = true := by
  intro x hx
  obtain ⟨_, _, rfl⟩ := List.mem_map.1 hx
  rfl
theorem Keeps.setRow {O : List Nat} {a w : World} {g : Nat} (h : Keeps O a w) (hg : g ∈ O ∨ a.heap.size ≤ g) (cs : Array Value) : Keeps O a (w.setRow g cs) :=
  ⟨h.os, h.tape, h.output, by simpa [World.setRow] using h.size, fun k hk ho => (setRow_other w g k cs (by rintro rfl; rcases hg with x | x; exact ho x; omega)).trans (h.block k hk ho)⟩
theorem rdF_uuid {s bp rs v t1 t2 F T' k U off r r' y1 y2 y3 y4 y5 y6 y7 y8 : Nat} {q1 q2 q3 q4 q5 q6 q7 q8 : String} {g1 g2 g3 g4 g5 g6 g7 g8 : Array Edge} {at_ : Array TypeId}
    (hk : KOK N lo t ((s, .int .i64 0) :: (bp, .int .i64 0) :: K)) (hT : FieldAt P T' k off) (hU : ManyCells P U 16) (he : Enters P F) (hC : UuidRd P F) (hD : Dims N nt lo t) (hd : t ≤ t1 ∧ t1 < nt ∧ lo ≤ v ∧ v < N ∧ t ≤ t2 ∧ t2 + 3 < nt ∧ bp < lo ∧ s < lo) :
    RdF RT P N nt gE E ver flex K lo t s bp rs ((Code.region r #[⟨some t1, .call { callee := .value (.func F), args := #[.tmp bp], argTypes := at_ }, y1, q1, g1, none⟩, ⟨some v, .alloc U, y2, q2, g2, none⟩, ⟨none, .store U (.tmp v) (.tmp t1), y3, q3, g3, none⟩] false).seq
      (.region r' #[⟨some t2, .move (.tmp s), y4, q4, g4, none⟩, ⟨some (t2 + 1), .load U (.tmp v), y5, q5, g5, none⟩, ⟨some (t2 + 2), .nilCheck (.tmp t2), y6, q6, g6, none⟩, ⟨some (t2 + 3), .fieldAddr T' (.tmp (t2 + 2)) k, y7, q7, g7, none⟩,
        ⟨none, .store U (.tmp (t2 + 3)) (.tmp (t2 + 1)), y8, q8, g8, none⟩] false)) off (.leaf .uuid) := by
  intro O rb b o Tb a w cs st Q hN hh hst hF hq hr
  obtain ⟨d1, d2, d3, d4, d5, d6, d7, d8⟩ := hd
  have x1 := hD.dOne; have x2 := hD.dLo; have x3 := hD.dT; have x4 := hD.dN
  have hF' : o + off + 16 ≤ cs.length := hF
  refine wp_seq (wp_reg ?_)
  refine wl_call (R := RdPost (rdTake 16) (fun O w v s => v = .agg (s.map byteV).toArray) (fun v => ∃ l : List UInt8, l.length = 16 ∧ v = .agg (l.map byteV).toArray) O rb w st) he ?_ ?_
  · simp only [List.map_toArray, List.map_cons, List.map_nil, aget_eval]
    rw [hh.tail.head]
    exact hC O rb w st hst.rbO hst.lt hst.rdr
  rintro en w1 ⟨x, rfl, hr1, hk1, hbad, hgood⟩
  refine ⟨_, rfl, ?_⟩
  obtain ⟨l, hl16, hxl, hgl⟩ : ∃ l : List UInt8, l.length = 16 ∧ x = .agg (l.map byteV).toArray ∧ ∀ s r, st.bind (rdTake 16) = some (s, r) → s = l := by
    cases hx : st.bind (rdTake 16) with
    | none =>
      obtain ⟨l, h1, h2⟩ := hbad hx
      exact ⟨l, h1, h2, fun s r h => by cases h⟩
    | some q =>
      refine ⟨q.1, ?_, hgood q.1 q.2 hx, fun s r h => by cases h; rfl⟩
      cases st with
      | none => cases hx
      | some bs => exact take_len (r := q.2) hx
  subst hxl
  have hst1 := hst.call hr1 hk1
  obtain ⟨z, hz, hza⟩ := run_alloc_many (P := P) hU w1
  refine wl_value (v := .pointer (some ⟨w1.heap.size, 0, none⟩)) (w' := w1.alloc (.cells z U)) rfl (by simp [execOp, hza]) ?_
  have hg : (w1.alloc (.cells z U)).heap[w1.heap.size]? = some (.cells z U (0, 0)) := heap_alloc_new w1 _
  refine wl_store (w' := (w1.alloc (.cells z U)).setRow w1.heap.size (l.map byteV).toArray) ?_ ?_
  · rw [aget_eval, aget_eval, aget_put_same _ _ _ (by simp only [size_put]; omega), aget_put_other _ _ _ t1 (by omega), aget_put_same _ _ _ (by omega)]
    exact run_store_many (P := P) hU hg hz (l := l.map byteV) (by simpa using hl16) (bytes_one l)
  refine wpList_nil ?_
  have hf1 : Fr N lo t nt a ((a.put (some t1) (.agg (l.map byteV).toArray)).put (some v) (.pointer (some ⟨w1.heap.size, 0, none⟩))) := ((Fr.refl N lo t nt a).put _ _ (by omega)).put _ _ (by omega)
  have hv1 : aget ((a.put (some t1) (.agg (l.map byteV).toArray)).put (some v) (.pointer (some ⟨w1.heap.size, 0, none⟩))) v = .pointer (some ⟨w1.heap.size, 0, none⟩) := aget_put_same _ _ _ (by simp only [size_put]; omega)
  generalize ((a.put (some t1) (.agg (l.map byteV).toArray)).put (some v) (.pointer (some ⟨w1.heap.size, 0, none⟩))) = a1 at *
  have hN1 := hf1.size.trans hN
  have hh1 := hh.frR (kokR hk) hD hf1
  have hk2 : Keeps [] w1 ((w1.alloc (.cells z U)).setRow w1.heap.size (l.map byteV).toArray) := Keeps.setRow ((Keeps.refl [] w1).alloc _) (.inr (Nat.le_refl _)) _
  have hbl : Blk ((w1.alloc (.cells z U)).setRow w1.heap.size (l.map byteV).toArray) w1.heap.size (l.map byteV) U := setRow_heap _ _ _ _ _ _ hg
  generalize ((w1.alloc (.cells z U)).setRow w1.heap.size (l.map byteV).toArray) = w2 at *
  have hst2 := hst1.upd (hst1.blk.keeps hk2 (by simp)) (hk2.mono (by simp))
  simp only [Exit.then]
  refine wp_reg ?_
  refine wl_move hh1.head ?_
  refine wl_value (v := .agg (l.map byteV).toArray) (w' := w2) rfl ?_ ?_
  · have e2 : (a1.put (some t2) (.pointer (some ⟨b, o, none⟩))).eval (.tmp v) = .pointer (some ⟨w1.heap.size, 0, none⟩) := (aget_put_other _ _ _ _ (by omega)).trans hv1
    have := run_load_many (P := P) hU (w := w2) (ad := ⟨w1.heap.size, 0, none⟩) (l := l.map byteV) (by simpa using hl16) (fun j x hx => by
      rw [Addr.add_lit, Nat.zero_add, hbl.cell]; exact hx)
    simp [execOp, e2, this]
  refine wl_nilCheck (ad := ⟨b, o, none⟩) (by rw [aget_put_other _ _ _ t2 (by omega)]; exact aget_put_same _ _ _ (by omega)) ?_
  refine wl_fieldAddr hT (aget_put_same _ _ _ (by simp only [size_put]; omega)) ?_
  rw [Addr.add_lit]
  have hl16' : (l.map byteV).length = 16 := by simpa using hl16
  refine wl_store (w' := w2.setRow b (laid cs (o + off) (l.map byteV)).toArray) ?_ ?_
  · rw [aget_eval, aget_eval, aget_put_same _ _ _ (by simp only [size_put]; omega), aget_put_other _ _ _ (t2 + 1) (by omega), aget_put_other _ _ _ (t2 + 1) (by omega), aget_put_same _ _ _ (by simp only [size_put]; omega)]
    exact run_store_many_at hU hst2.blk hl16' hF' (bytes_one l)
  have hb3 : Blk (w2.setRow b (laid cs (o + off) (l.map byteV)).toArray) b (laid cs (o + off) (l.map byteV)) Tb := setRow_heap _ _ _ _ _ _ hst2.blk
  have hk3 : Keeps [b] w2 (w2.setRow b (laid cs (o + off) (l.map byteV)).toArray) := Keeps.setRow (Keeps.refl [b] w2) (.inl (by simp)) _
  have hso := SameOut.laid cs (o + off) (l.map byteV) (by omega)
  have est : ((st.bind (rd ver flex (.leaf .uuid))).map (·.2)) = ((st.bind (rdTake 16)).map (·.2)) := by
    change (st.bind ((rdTake 16).bind fun s => Pr.pure (GV.bytes s))).map _ = _
    rw [bind_st]
    cases st.bind (rdTake 16) <;> rfl
  refine wpList_nil (hq _ _ (laid cs (o + off) (l.map byteV)) ?_ (hf1.trans (((((Fr.refl N lo t nt a1).put _ _ (by omega)).put _ _ (by omega)).put _ _ (by omega)).put _ _ (by omega))) ?_ ?_ fun gv r hv => ?_)
  · rw [est]
    exact hst2.upd hb3 hk3
  · exact ((keeps_rb hk1).trans (hk2.mono (by simp))).trans (hk3.mono (by simp))
  · rw [hl16'] at hso; exact hso
  · have hv' : ∃ q, st.bind (rdTake 16) = some q ∧ gv = .bytes q.1 := by
      change st.bind ((rdTake 16).bind fun s => Pr.pure (GV.bytes s)) = _ at hv
      rw [bind_st] at hv
      cases hx : st.bind (rdTake 16) with
      | none => rw [hx] at hv; cases hv
      | some q =>
        rw [hx] at hv
        simp only [Option.bind_some, Pr.pure, Option.some.injEq, Prod.mk.injEq] at hv
        exact ⟨q, rfl, hv.1.symm⟩
    obtain ⟨q, hx, rfl⟩ := hv'
    have hql := hgl q.1 q.2 hx
    rw [hql]
    refine ⟨hl16, fun i u hi => ?_⟩
    have hlt : i < l.length := (List.getElem?_eq_some_iff.1 hi).1
    rw [hb3.cell, laid_get cs (o + off) (l.map byteV) (by omega) i (by simp; omega), List.getElem?_map, hi]
    rfl
end
end Go.Proofs.YtmpilpgabelmiaaGreatDoor

/- The reader's Uuid. -/
namespace Go.Proofs.YtmpilpgabelmiaaGreatDoor
open Go Go.RowKit
set_option linter.unusedVariables false
abbrev z16 : List Value := List.replicate 16 (.int .u8 0)
theorem spanVal {O : List Nat} {rb : Nat} {w : World} {st : Option (List UInt8)} {e : Ending} {w' : World} (h : RdPost (rdSpan 16) (fun O w v s => RB O w v s) (fun v => v = .slice none 0 0) O rb w st e w') :
    ∃ (sp : Option Addr) (n cap : Nat) (cs : List Value), e = .returned (.slice sp n cap) ∧ cs.length = Nat.min n 16 ∧ (0 < cs.length → ∃ ad, sp = some ad ∧ ∀ j v, cs[j]? = some v → w'.cell? (ad.add j) = some v) ∧ cs.length ≤ 16 ∧ (∀ v ∈ cs, v.oneCell' = true) ∧
      (∃ l : List UInt8, l.length = 16 ∧ splice z16 0 cs = l.map byteV ∧ ∀ s r, st.bind (rdTake 16) = some (s, r) → s = l) ∧ Rdr O w' rb ((st.bind (rdTake 16)).map (·.2)) ∧ Keeps [rb] w w' := by
  obtain ⟨v, rfl, h1, h2, h3, h4⟩ := h
  rw [span16] at h1 h3 h4
  cases hx : st.bind (rdTake 16) with
  | none =>
    obtain rfl := h3 hx
    refine ⟨none, 0, 0, [], rfl, rfl, fun h => absurd h (by simp), by simp, by simp, ⟨List.replicate 16 0, by simp, ?_, fun s r h => by cases h⟩, by rw [hx] at h1; exact h1, h2⟩
    rfl
  | some q =>
    have hl : q.1.length = 16 := by
      cases st with
      | none => cases hx
      | some bs => exact take_len (r := q.2) hx
    obtain ⟨a, cap, rfl, -, -, hc⟩ := h4 q.1 q.2 hx
    refine ⟨a, q.1.length, cap, q.1.map byteV, rfl, by rw [List.length_map, hl]; rfl, fun _ => ?_, by rw [List.length_map, hl]; exact Nat.le_refl _, bytes_one _, ⟨q.1, hl, ?_, fun s r h => by cases h; rfl⟩, by rw [hx] at h1; exact h1, h2⟩
    · obtain ⟨b, o, rfl, -, hcell⟩ := hc (by intro h; rw [h] at hl; cases hl)
      refine ⟨_, rfl, fun j v hj => ?_⟩
      rw [List.getElem?_map] at hj
      cases hq : q.1[j]? with
      | none => rw [hq] at hj; cases hj
      | some u => rw [hq] at hj; cases hj; rw [Addr.add_lit]; exact hcell j u hq
    · unfold splice
      rw [List.length_map, hl]
      simp
/-- 'copy' into a block: all else stays. -/
theorem step_copy_keep {P : Program} {ops : Array Oper} {o : Oper} {a : Act} {w : World} {K : Act → World → Prop} {Q : Exit → Act → World → Prop} {E : Prop} (hgd : o.guard = none) (d s : Operand) (dT sT : TypeId)
    (ho : o.op = .call { callee := .builtin .copy, args := #[d, s], argTypes := #[dT, sT] }) (elem : TypeId) (hu : P.underlying dT = some (.slice elem)) (hsz : (P.info? elem).map (·.size) = some 1)
    (dp sp : Option Addr) (dLen dCap sLen sCap : Nat) (hd : a.eval d = .slice dp dLen dCap) (hs : a.eval s = .slice sp sLen sCap)
    (g : Nat) (cur : List Value) (t : TypeId) (hg : w.heap[g]? = some (.cells cur.toArray t (0, 0))) (cs : List Value) (hn : cs.length = Nat.min sLen dLen)
    (hpos : 0 < cs.length → dp = some ⟨g, 0, none⟩ ∧ ∃ ad, sp = some ad ∧ ∀ j v, cs[j]? = some v → w.cell? (ad.add j) = some v)
    (hfit : cs.length ≤ cur.length) (h1 : ∀ v ∈ cs, v.oneCell' = true)
    (h : ∀ w', RowKit.Hid (w'.heap[g]? = some (.cells (splice cur 0 cs).toArray t (0, 0))) → Keeps [g] w w' → K (a.put o.dst (goInt cs.length)) w') :
    if Region.wanted o (yielded ops a.tmps) = true then Oper.wp P o a w K Q else E := by
  have hw : Region.wanted o (yielded ops a.tmps) = true := by simp [Region.wanted, hgd]
  rw [if_pos hw]
  by_cases h0 : cs.length = 0
  · obtain rfl : cs = [] := List.eq_nil_of_length_eq_zero h0
    have hrun := run_copy_none (P := P) w dT sT o.type elem dp sp dLen dCap sLen sCap hu hsz (by simpa using hn.symm)
    unfold Oper.wp
    simp [execOp, ho, resolve, invoke, builtin, hd, hs, hrun, Result.andThen]
    exact h w (show _ = _ by simpa [splice] using hg) (Keeps.refl _ _)
  · obtain ⟨rfl, ad, rfl, hsrc⟩ := hpos (by omega)
    have hrun := run_copy_row (P := P) w dT sT o.type elem g 0 dLen dCap ad sLen sCap cur.toArray t cs hu hsz hg hn hsrc (by simpa using hfit) h1
    unfold Oper.wp
    simp [execOp, ho, resolve, invoke, builtin, hd, hs, hrun, Result.andThen]
    exact h _ (show _ = _ by simpa [splice] using setRow_heap w g _ _ t _ hg) (Keeps.setRow (Keeps.refl _ _) (.inl (by simp)) _)
theorem results_cellN {fn : Func} {t U n : Nat} {P : Program} {w : World} {ad : Addr} {l : List Value} {tmps : Array Value} (h : fn.results = #[.cell t U]) (ht : tmps.getD t undef = .pointer (some ad)) (hU : ManyCells P U n) (hl : l.length = n) (hc : ∀ j v, l[j]? = some v → w.cell? (ad.add j) = some v) :
    (results fn tmps).run P w = .ok (.agg l.toArray) w := by
  have h1 := run_load_many (P := P) hU (w := w) (ad := ad) hl hc
  have h2 : (loadVar U ad).run P w = .ok (.agg l.toArray) w := by simpa [Instr.loadAt, Instr.sureAddr] using h1
  have h3 : tmps[t]?.getD undef = .pointer (some ad) := by simpa using ht
  simp [results, h, h3, asAddr, h2]
end Go.Proofs.YtmpilpgabelmiaaGreatDoor

/- What readgen.py's texts lean on. -/
namespace Go.Proofs.YtmpilpgabelmiaaGreatDoor
open Go Go.RowKit
theorem kokD {N lo t : Nat} {K : Slots} (h : (K.map (·.1)).all (fun a => decide (a ≠ 1) && (decide (a < lo) || (decide (N ≤ a) && decide (a < t)))) = true) : KOK N lo t K := by
  intro p hp
  have h1 := List.all_eq_true.1 h p.1 (List.mem_map_of_mem hp)
  simp only [Bool.and_eq_true, Bool.or_eq_true, decide_eq_true_eq] at h1
  exact h1
theorem mcReader : ManyCells Tryz.prog 110 2 := ⟨fun w => Tryz.isAgg110 w, ⟨Tryz.t110, _, by kernel_rfl, rfl, rfl, rfl⟩⟩
end Go.Proofs.YtmpilpgabelmiaaGreatDoor

/- The law's own helpers; what is read and written again. -/
namespace Go.Proofs.YtmpilpgabelmiaaGreatDoor
open Go Go.RowKit
set_option linter.unusedVariables false

/-- What is read of any octets is written as octets that are read again, and written as the same. -/
theorem anyLaw {ver : Int} {flex : Bool} {s : Sch} {bs r : List UInt8} {v : GV} (hok : okS ver flex s = true) (hb : bs.length ≤ 1000) (h : rd ver flex s bs = some (v, r)) :
    (ap ver flex s v).length ≤ 1000 ∧ ∃ v', rd ver flex s (ap ver flex s v) = some (v', []) ∧ ap ver flex s v' = ap ver flex s v := by
  obtain ⟨h1, h2⟩ := rd_out ver flex s hok (by unfold M; omega) h
  obtain ⟨v', -, h4, h5⟩ := rd_ap ver flex s v hok h1
  refine ⟨by omega, v', ?_, h4⟩
  have := h5 []
  rwa [List.append_nil] at this
theorem Own.rl' {base : Nat} {w : World} {v : Value} {bs : List UInt8} (h : Own base w v bs) : RL w.heap.size w v bs := (h.rb [] (by simp)).rl
/-- What Again answers. -/
def AgainPost (ver : Int) (flex : Bool) (s : Sch) (bs : List UInt8) (w : World) (e : Ending) (w' : World) : Prop :=
  Below w.heap.size w w' ∧ (rd ver flex s bs = none → e = .returned (.tuple #[.slice none 0 0, .bool false])) ∧ ∀ v r, rd ver flex s bs = some (v, r) → ∃ x, e = .returned (.tuple #[x, .bool true]) ∧ Own w.heap.size w' x (ap ver flex s v)
set_option maxRecDepth 100000 in
set_option maxHeartbeats 1600000 in
theorem sameOK (bs : List UInt8) (x y : Value) (B base : Nat) (w : World) (hb : base ≤ w.heap.size) (hx : RL B w x bs) (hy : RL B w y bs) (hBw : B ≤ base) : Calls Tryz.prog 9 #[x, y] w fun e w' => e = .returned (.bool true) ∧ Below base w w' := by
  obtain ⟨a, cap, rfl, h1, h2, h3⟩ := hx
  obtain ⟨a', cap', rfl, h1', h2', h3'⟩ := hy
  by_cases hne : bs = []
  · subst hne
    clear h3 h3'
    go_enter Tryz.func9, Tryz.ntmps9
    go_wp2_with fail
    refine wp_loop_rounds 1 ?_
    rw [rounds_succ]
    go_wp2
    go_ret
    exact ⟨rfl, Below.refl _ _⟩
  obtain ⟨p, q, rfl, hp, hc⟩ := h3 hne
  obtain ⟨p', q', rfl, hp', hc'⟩ := h3' hne
  have H := Lib.hid (And.intro hc hc')
  clear hc hc' h3 h3' hne
  obtain ⟨n, hn⟩ : ∃ n, bs.length = n := ⟨_, rfl⟩
  rw [hn] at h1 h1' ⊢
  go_enter Tryz.func9, Tryz.ntmps9
  go_wp2_with fail
  go_loopw [13] (fun i wr => ∃ k : Nat, k ≤ n ∧ i = .int .i64 k ∧ Below base w wr) (fun i _ => n - numOf i)
  case atStart => exact ⟨0, Nat.zero_le _, rfl, Below.refl _ _⟩
  case round =>
    obtain ⟨k, hk, rfl, hbk⟩ := hrel
    by_cases hkn : k < n
    · obtain ⟨u, hu⟩ : ∃ u, bs[k]? = some u := ⟨bs[k], List.getElem?_eq_getElem (by omega)⟩
      have c1 := (hbk.cell (p := ⟨p, q + k, none⟩) (by show p < base; omega)).trans (H.out.1 k u hu)
      have c2 := (hbk.cell (p := ⟨p', q' + k, none⟩) (by show p' < base; omega)).trans (H.out.2 k u hu)
      have FIN := Lib.hid hbk.drew
      clear hbk hu
      unfold byteV at c1 c2
      generalize (u.toNat : Int) = z at *
      go_wp2_with fail
      go_region_held3 (fun w' => w'.cell? ⟨p, q + k, none⟩ = some (.int .u8 z) ∧ w'.cell? ⟨p', q' + k, none⟩ = some (.int .u8 z)) (first | exact ⟨c1, c2⟩) (first | fail)
      go_wp2
      go_roundw
      case rel => exact ⟨k + 1, by omega, by go_num, FIN.out⟩
      case measure => simp [numOf]; omega
    · have : k = n := by omega
      subst this
      go_wp2
      go_ret
      exact ⟨rfl, hbk⟩

set_option maxHeartbeats 400000 in
theorem versionOK (n most : Int) (h0 : 0 ≤ n) (h1 : n ≤ 255) (h2 : 0 ≤ most) (h3 : most ≤ 255) (w : World) : Calls Tryz.prog 13 #[.int .u8 n, .int .i64 most] w fun e w' => e = .returned (.int .i64 (n % (most + 1))) ∧ w = w' := by
  go_enter Tryz.func13, Tryz.ntmps13
  go_wp2
  go_ret
  exact ⟨rfl, rfl⟩
end Go.Proofs.YtmpilpgabelmiaaGreatDoor

/- The reference's own words as plain functions: fields, what they say, and what is written of them. No program in sight. -/
namespace Go.Proofs.YtmpilpgabelmiaaGreatDoor

/-- Fields (spec.Field), one behind the other: kind, from, to, null, tag, default, kind of things; the fields of a part. -/
inductive PFs where
  | nil
  | cons (k fr to nu tg df ok : Int) (sub rest : PFs)
def PFs.len : PFs → Nat
  | .nil => 0
  | .cons _ _ _ _ _ _ _ _ rest => rest.len + 1
/-- No field has a tag, to the bottom. -/
def PFs.noTag : PFs → Prop
  | .nil => True
  | .cons _ _ _ _ tg _ _ sub rest => tg = -1 ∧ sub.noTag ∧ rest.noTag

/-- What a field says (spec.Tree). -/
inductive Tree where
  | mk (n : Int) (s : List UInt8) (null : Bool) (l : List Tree) (u : List (Nat × List UInt8))
def Tree.n : Tree → Int | .mk n _ _ _ _ => n
def Tree.s : Tree → List UInt8 | .mk _ s _ _ _ => s
def Tree.null : Tree → Bool | .mk _ _ b _ _ => b
def Tree.l : Tree → List Tree | .mk _ _ _ l _ => l
def Tree.u : Tree → List (Nat × List UInt8) | .mk _ _ _ _ u => u
def Tree.zero : Tree := .mk 0 [] false [] []
def atT (t : Tree) (i : Nat) : Tree := t.l.getD i .zero

def fixed (n : Int) (size : Nat) : List UInt8 := if size = 1 then [bb n] else if size = 2 then be16 n else if size = 4 then be32 n else be64 n
def counted (flex null : Bool) (n size : Nat) : List UInt8 := if flex then (if null then [0] else uv (n + 1)) else if null then fixed (-1) size else fixed n size
def pWidth (k : Int) : Nat := if k = 1 then 1 else if k = 2 ∨ k = 5 then 2 else if k = 3 then 4 else 8
def whole (s : List UInt8) : List UInt8 := s.take 32767
/-- 16 octets of a text, zeros behind it. -/
def uuid16 (s : List UInt8) : List UInt8 := (s ++ List.replicate 16 0).take 16
def pNull (nu ver : Int) (t : Tree) : Bool := t.null && decide (0 ≤ nu) && decide (nu ≤ ver)

/-- What is written of a value of a kind; pp: of a part. -/
def pVal (flex : Bool) (k : Int) (pp : Tree → List UInt8) (null : Bool) (t : Tree) : List UInt8 :=
  if k = 0 then [bb (t.n % 2)]
  else if k = 7 then uuid16 t.s
  else if k = 8 then counted flex null (if null then [] else whole t.s).length 2 ++ (if null then [] else whole t.s)
  else if k = 9 then counted flex null (if null then [] else whole t.s).length 4 ++ (if null then [] else whole t.s)
  else if k = 10 then pp t
  else fixed t.n (pWidth k)
def pThings (null : Bool) (t : Tree) : List Tree := if null then [] else t.l.take 32767
def pField (ver : Int) (flex : Bool) (k nu ok : Int) (pp : Tree → List UInt8) (t : Tree) : List UInt8 :=
  if k = 11 then counted flex (pNull nu ver t) (pThings (pNull nu ver t) t).length 4 ++ (pThings (pNull nu ver t) t).flatMap (pVal flex ok pp false)
  else if k = 10 ∧ 0 ≤ nu then (if pNull nu ver t then fixed (-1) 1 else fixed 1 1 ++ pp t)
  else pVal flex k pp (pNull nu ver t) t
/-- A tag, laid into a list of tags by rising numbers: the first one counts. -/
def insU (k : Nat) (v : List UInt8) : List (Nat × List UInt8) → List (Nat × List UInt8)
  | [] => [(k, v)]
  | (j, u) :: r => if j < k then (j, u) :: insU k v r else if j = k then (j, u) :: r else (k, v) :: (j, u) :: r
def unk (l : List (Nat × List UInt8)) : List (Nat × List UInt8) := (l.take 32767).foldl (fun acc t => insU t.1 t.2 acc) []
def pTag (t : Nat × List UInt8) : List UInt8 := uv t.1 ++ uv (whole t.2).length ++ whole t.2
def pTail (flex : Bool) (t : Tree) : List UInt8 := if flex then uv (unk t.u).length ++ (unk t.u).flatMap pTag else []
def pHas (fr to ver : Int) : Bool := decide (fr ≤ ver) && (decide (to < 0) || decide (ver ≤ to))
/-- What is written of fields, from the i-th on; of those without tags. -/
def pFields (ver : Int) (flex : Bool) : PFs → Nat → Tree → List UInt8
  | .nil, _, _ => []
  | .cons k fr to nu tg _ ok sub rest, i, t =>
    (if decide (tg < 0) && pHas fr to ver then pField ver flex k nu ok (fun t' => pFields ver flex sub 0 t' ++ pTail flex t') (atT t i) else []) ++ pFields ver flex rest (i + 1) t
/-- What is written of a part. -/
def pPart (ver : Int) (flex : Bool) (fs : PFs) (t : Tree) : List UInt8 := pFields ver flex fs 0 t ++ pTail flex t

/-- What a new part says. -/
def pDefault : PFs → List Tree
  | .nil => []
  | .cons k _ _ nu _ df _ sub rest => .mk df [] (decide (0 ≤ nu)) (if k = 10 then pDefault sub else []) [] :: pDefault rest
end Go.Proofs.YtmpilpgabelmiaaGreatDoor

/- How the reference's fields and trees lie in memory, below block B. -/
namespace Go.Proofs.YtmpilpgabelmiaaGreatDoor
open Go Go.RowKit

/-- Fields that stand in cells, from (p, q) on, 8 cells each. -/
def RepFC (B : Nat) (w : World) : PFs → Nat → Nat → Prop
  | .nil, _, _ => True
  | .cons k fr to nu tg df ok sub rest, p, q =>
    (w.cell? ⟨p, q, none⟩ = some (.int .i64 k) ∧ w.cell? ⟨p, q + 1, none⟩ = some (.int .i64 fr) ∧ w.cell? ⟨p, q + 2, none⟩ = some (.int .i64 to) ∧ w.cell? ⟨p, q + 3, none⟩ = some (.int .i64 nu) ∧
      w.cell? ⟨p, q + 4, none⟩ = some (.int .i64 tg) ∧ w.cell? ⟨p, q + 5, none⟩ = some (.int .i64 df) ∧ w.cell? ⟨p, q + 6, none⟩ = some (.int .i64 ok)) ∧
    (∃ v, w.cell? ⟨p, q + 7, none⟩ = some v ∧ ∃ a cap, v = .slice a sub.len cap ∧ sub.len ≤ 9223372036854775807 ∧ (sub.len ≠ 0 → ∃ p' q', a = some ⟨p', q', none⟩ ∧ p' < B ∧ RepFC B w sub p' q')) ∧
    RepFC B w rest p (q + 8)
/-- Fields behind a slice's value. -/
def RepF (B : Nat) (w : World) (fs : PFs) (v : Value) : Prop := ∃ a cap, v = .slice a fs.len cap ∧ fs.len ≤ 9223372036854775807 ∧ (fs.len ≠ 0 → ∃ p q, a = some ⟨p, q, none⟩ ∧ p < B ∧ RepFC B w fs p q)
theorem RepFC.below {B : Nat} {w w' : World} (hk : Below B w w') : ∀ {fs : PFs} {p q : Nat}, p < B → RepFC B w fs p q → RepFC B w' fs p q
  | .nil, _, _, _, _ => trivial
  | .cons _ _ _ _ _ _ _ sub rest, p, q, hp, h => by
    obtain ⟨⟨h1, h2, h3, h4, h5, h6, h7⟩, ⟨v, h8, a, cap, h9, hle, h10⟩, h11⟩ := h
    have hc : ∀ j, w'.cell? ⟨p, j, none⟩ = w.cell? ⟨p, j, none⟩ := fun j => hk.cell (p := ⟨p, j, none⟩) hp
    refine ⟨⟨(hc _).trans h1, (hc _).trans h2, (hc _).trans h3, (hc _).trans h4, (hc _).trans h5, (hc _).trans h6, (hc _).trans h7⟩, ⟨v, (hc _).trans h8, a, cap, h9, hle, fun hn => ?_⟩, RepFC.below hk hp h11⟩
    obtain ⟨p', q', ha, hp', hr⟩ := h10 hn
    exact ⟨p', q', ha, hp', RepFC.below hk hp' hr⟩
theorem RepF.below {B : Nat} {w w' : World} {fs : PFs} {v : Value} (h : RepF B w fs v) (hk : Below B w w') : RepF B w' fs v := by
  obtain ⟨a, cap, hv, hle, h⟩ := h
  refine ⟨a, cap, hv, hle, fun hn => ?_⟩
  obtain ⟨p, q, ha, hp, hr⟩ := h hn
  exact ⟨p, q, ha, hp, hr.below hk hp⟩

/-- Unknown tags: cells of a number and octets, two a tag. -/
def RepU (B : Nat) (w : World) (u : List (Nat × List UInt8)) (v : Value) : Prop :=
  ∃ a cap, v = .slice a u.length cap ∧ u.length ≤ cap ∧ cap ≤ 9223372036854775807 ∧ (u ≠ [] → ∃ p q, a = some ⟨p, q, none⟩ ∧ p < B ∧
    ∀ i kv, u[i]? = some kv → w.cell? ⟨p, q + 2 * i, none⟩ = some (.int .u32 (kv.1 : Int)) ∧ kv.1 ≤ 4294967295 ∧ ∃ x, w.cell? ⟨p, q + 2 * i + 1, none⟩ = some x ∧ RL B w x kv.2)
theorem RepU.below {B : Nat} {w w' : World} {u : List (Nat × List UInt8)} {v : Value} (h : RepU B w u v) (hk : Below B w w') : RepU B w' u v := by
  obtain ⟨a, cap, hv, h1, h2, h⟩ := h
  refine ⟨a, cap, hv, h1, h2, fun hn => ?_⟩
  obtain ⟨p, q, ha, hp, hr⟩ := h hn
  refine ⟨p, q, ha, hp, fun i kv hi => ?_⟩
  obtain ⟨h3, h4, x, h5, h6⟩ := hr i kv hi
  exact ⟨(hk.cell (p := ⟨p, _, none⟩) hp).trans h3, h4, x, (hk.cell (p := ⟨p, _, none⟩) hp).trans h5, h6.below hk⟩

/-- A tree whose five cells hold c. -/
inductive RepT (B : Nat) (w : World) : List Value → Tree → Prop
  | mk (n : Int) (s : List UInt8) (null : Bool) (l : List Tree) (u : List (Nat × List UInt8)) (sv uv : Value) (a : Option Addr) (cap : Nat) (f : Nat → List Value)
    (hn : -9223372036854775808 ≤ n ∧ n ≤ 9223372036854775807) (hs : RL B w sv s) (hu : RepU B w u uv) (hcap : l.length ≤ cap ∧ cap ≤ 9223372036854775807)
    (hl : l ≠ [] → ∃ p q, a = some ⟨p, q, none⟩ ∧ p < B ∧ ∀ i, i < l.length → (f i).length = 5 ∧ ∀ j v, (f i)[j]? = some v → w.cell? ⟨p, q + 5 * i + j, none⟩ = some v)
    (hf : ∀ i t, l[i]? = some t → RepT B w (f i) t) : RepT B w [.int .i64 n, sv, .bool null, .slice a l.length cap, uv] (.mk n s null l u)
theorem RepT.keep {B : Nat} {w w' : World} (hk : Below B w w') {c : List Value} {t : Tree} (h : RepT B w c t) : RepT B w' c t := by
  induction h with
  | mk n s null l u sv uv a cap f hn hs hu hcap hl hf ih =>
    refine .mk n s null l u sv uv a cap f hn (hs.below hk) (hu.below hk) hcap (fun hne => ?_) ih
    obtain ⟨p, q, ha, hp, h⟩ := hl hne
    exact ⟨p, q, ha, hp, fun i hi => ⟨(h i hi).1, fun j v hj => (hk.cell (p := ⟨p, _, none⟩) hp).trans ((h i hi).2 j v hj)⟩⟩
theorem RepT.zero (B : Nat) (w : World) : RepT B w [.int .i64 0, .slice none 0 0, .bool false, .slice none 0 0, .slice none 0 0] .zero :=
  .mk 0 [] false [] [] _ _ none 0 (fun _ => []) (by omega) ⟨none, 0, rfl, Nat.le_refl _, by omega, fun h => absurd rfl h⟩ ⟨none, 0, rfl, Nat.le_refl _, by omega, fun h => absurd rfl h⟩ (by simp) (fun h => absurd rfl h) (fun i t h => by simp at h)
end Go.Proofs.YtmpilpgabelmiaaGreatDoor

/- The reference's small functions: each hands back just these bytes. -/
namespace Go.Proofs.YtmpilpgabelmiaaGreatDoor
open Go Go.RowKit

/-- Function f hands back bytes of the call's own; below base nothing has turned. -/
def Gives (P : Program) (f : Nat) (args : Array Value) (w : World) (base : Nat) (new : List UInt8) : Prop := Calls P f args w (Appended base w new)

set_option maxRecDepth 100000 in
set_option maxHeartbeats 1600000 in
theorem spFixed1 (n : Int) (base : Nat) (w : World) (hb : base ≤ w.heap.size) : Gives Tryz.prog 16 #[.int .i64 n, .int .i64 1] w base (fixed n 1) := by
  have hown0 := Own.nil base w
  have hbel0 := Below.refl base w
  go_enter Tryz.func16, Tryz.ntmps16
  go_wp2_with fail
  refine wp_loop_rounds 2 ?_
  rw [rounds_succ]
  go_wp2_with (at_builtin; refine halted ?_)
  refine wpl_append_bytes bt rfl _ _ rfl base [] hown0 (Nat.le_trans hb hbel0.size) _ [bb n] ?_ rfl (by simp [lim]) ?_
  · simp only [List.map_cons, List.map_nil, byteV_bb]
  clear hown0
  intro v1 w1 hown1 hb1
  have hbel1 := hbel0.trans hb1
  clear hbel0 hb1
  go_wp2_with fail
  rw [rounds_succ]
  go_wp2
  go_ret
  exact .mk hown1 hbel1
set_option maxRecDepth 100000 in
set_option maxHeartbeats 1600000 in
theorem spFixed2 (n : Int) (base : Nat) (w : World) (hb : base ≤ w.heap.size) : Gives Tryz.prog 16 #[.int .i64 n, .int .i64 2] w base (fixed n 2) := by
  have hown0 := Own.nil base w
  have hbel0 := Below.refl base w
  go_enter Tryz.func16, Tryz.ntmps16
  go_wp2_with fail
  refine wp_loop_rounds 3 ?_
  rw [rounds_succ]
  go_wp2_with (at_builtin; refine halted ?_)
  refine wpl_append_bytes bt rfl _ _ rfl base [] hown0 (Nat.le_trans hb hbel0.size) _ [bb (n / 256)] ?_ rfl (by simp [lim]) ?_
  · simp only [List.map_cons, List.map_nil, byteV_bb]
  clear hown0
  intro v1 w1 hown1 hb1
  have hbel1 := hbel0.trans hb1
  clear hbel0 hb1
  go_wp2_with fail
  rw [rounds_succ]
  go_wp2_with (at_builtin; refine halted ?_)
  refine wpl_append_bytes bt rfl _ _ rfl base [bb (n / 256)] hown1 (Nat.le_trans hb hbel1.size) _ [bb n] ?_ rfl (by simp [lim]) ?_
  · simp only [List.map_cons, List.map_nil, byteV_bb]
  clear hown1
  intro v2 w2 hown2 hb2
  have hbel2 := hbel1.trans hb2
  clear hbel1 hb2
  go_wp2_with fail
  rw [rounds_succ]
  go_wp2
  go_ret
  exact .mk hown2 hbel2
set_option maxRecDepth 100000 in
set_option maxHeartbeats 1600000 in
theorem spFixed4 (n : Int) (base : Nat) (w : World) (hb : base ≤ w.heap.size) : Gives Tryz.prog 16 #[.int .i64 n, .int .i64 4] w base (fixed n 4) := by
  have hown0 := Own.nil base w
  have hbel0 := Below.refl base w
  go_enter Tryz.func16, Tryz.ntmps16
  go_wp2_with fail
  refine wp_loop_rounds 5 ?_
  rw [rounds_succ]
  go_wp2_with (at_builtin; refine halted ?_)
  refine wpl_append_bytes bt rfl _ _ rfl base [] hown0 (Nat.le_trans hb hbel0.size) _ [bb (n / 16777216)] ?_ rfl (by simp [lim]) ?_
  · simp only [List.map_cons, List.map_nil, byteV_bb]
  clear hown0
  intro v1 w1 hown1 hb1
  have hbel1 := hbel0.trans hb1
  clear hbel0 hb1
  go_wp2_with fail
  rw [rounds_succ]
  go_wp2_with (at_builtin; refine halted ?_)
  refine wpl_append_bytes bt rfl _ _ rfl base [bb (n / 16777216)] hown1 (Nat.le_trans hb hbel1.size) _ [bb (n / 65536)] ?_ rfl (by simp [lim]) ?_
  · simp only [List.map_cons, List.map_nil, byteV_bb]
  clear hown1
  intro v2 w2 hown2 hb2
  have hbel2 := hbel1.trans hb2
  clear hbel1 hb2
  go_wp2_with fail
  rw [rounds_succ]
  go_wp2_with (at_builtin; refine halted ?_)
  refine wpl_append_bytes bt rfl _ _ rfl base [bb (n / 16777216), bb (n / 65536)] hown2 (Nat.le_trans hb hbel2.size) _ [bb (n / 256)] ?_ rfl (by simp [lim]) ?_
  · simp only [List.map_cons, List.map_nil, byteV_bb]
  clear hown2
  intro v3 w3 hown3 hb3
  have hbel3 := hbel2.trans hb3
  clear hbel2 hb3
  go_wp2_with fail
  rw [rounds_succ]
  go_wp2_with (at_builtin; refine halted ?_)
  refine wpl_append_bytes bt rfl _ _ rfl base [bb (n / 16777216), bb (n / 65536), bb (n / 256)] hown3 (Nat.le_trans hb hbel3.size) _ [bb n] ?_ rfl (by simp [lim]) ?_
  · simp only [List.map_cons, List.map_nil, byteV_bb]
  clear hown3
  intro v4 w4 hown4 hb4
  have hbel4 := hbel3.trans hb4
  clear hbel3 hb4
  go_wp2_with fail
  rw [rounds_succ]
  go_wp2
  go_ret
  exact .mk hown4 hbel4
set_option maxRecDepth 100000 in
set_option maxHeartbeats 1600000 in
theorem spFixed8 (n : Int) (base : Nat) (w : World) (hb : base ≤ w.heap.size) : Gives Tryz.prog 16 #[.int .i64 n, .int .i64 8] w base (fixed n 8) := by
  have hown0 := Own.nil base w
  have hbel0 := Below.refl base w
  go_enter Tryz.func16, Tryz.ntmps16
  go_wp2_with fail
  refine wp_loop_rounds 9 ?_
  rw [rounds_succ]
  go_wp2_with (at_builtin; refine halted ?_)
  refine wpl_append_bytes bt rfl _ _ rfl base [] hown0 (Nat.le_trans hb hbel0.size) _ [bb (n / 72057594037927936)] ?_ rfl (by simp [lim]) ?_
  · simp only [List.map_cons, List.map_nil, byteV_bb]
  clear hown0
  intro v1 w1 hown1 hb1
  have hbel1 := hbel0.trans hb1
  clear hbel0 hb1
  go_wp2_with fail
  rw [rounds_succ]
  go_wp2_with (at_builtin; refine halted ?_)
  refine wpl_append_bytes bt rfl _ _ rfl base [bb (n / 72057594037927936)] hown1 (Nat.le_trans hb hbel1.size) _ [bb (n / 281474976710656)] ?_ rfl (by simp [lim]) ?_
  · simp only [List.map_cons, List.map_nil, byteV_bb]
  clear hown1
  intro v2 w2 hown2 hb2
  have hbel2 := hbel1.trans hb2
  clear hbel1 hb2
  go_wp2_with fail
  rw [rounds_succ]
  go_wp2_with (at_builtin; refine halted ?_)
  refine wpl_append_bytes bt rfl _ _ rfl base [bb (n / 72057594037927936), bb (n / 281474976710656)] hown2 (Nat.le_trans hb hbel2.size) _ [bb (n / 1099511627776)] ?_ rfl (by simp [lim]) ?_
  · simp only [List.map_cons, List.map_nil, byteV_bb]
  clear hown2
  intro v3 w3 hown3 hb3
  have hbel3 := hbel2.trans hb3
  clear hbel2 hb3
  go_wp2_with fail
  rw [rounds_succ]
  go_wp2_with (at_builtin; refine halted ?_)
  refine wpl_append_bytes bt rfl _ _ rfl base [bb (n / 72057594037927936), bb (n / 281474976710656), bb (n / 1099511627776)] hown3 (Nat.le_trans hb hbel3.size) _ [bb (n / 4294967296)] ?_ rfl (by simp [lim]) ?_
  · simp only [List.map_cons, List.map_nil, byteV_bb]
  clear hown3
  intro v4 w4 hown4 hb4
  have hbel4 := hbel3.trans hb4
  clear hbel3 hb4
  go_wp2_with fail
  rw [rounds_succ]
  go_wp2_with (at_builtin; refine halted ?_)
  refine wpl_append_bytes bt rfl _ _ rfl base [bb (n / 72057594037927936), bb (n / 281474976710656), bb (n / 1099511627776), bb (n / 4294967296)] hown4 (Nat.le_trans hb hbel4.size) _ [bb (n / 16777216)] ?_ rfl (by simp [lim]) ?_
  · simp only [List.map_cons, List.map_nil, byteV_bb]
  clear hown4
  intro v5 w5 hown5 hb5
  have hbel5 := hbel4.trans hb5
  clear hbel4 hb5
  go_wp2_with fail
  rw [rounds_succ]
  go_wp2_with (at_builtin; refine halted ?_)
  refine wpl_append_bytes bt rfl _ _ rfl base [bb (n / 72057594037927936), bb (n / 281474976710656), bb (n / 1099511627776), bb (n / 4294967296), bb (n / 16777216)] hown5 (Nat.le_trans hb hbel5.size) _ [bb (n / 65536)] ?_ rfl (by simp [lim]) ?_
  · simp only [List.map_cons, List.map_nil, byteV_bb]
  clear hown5
  intro v6 w6 hown6 hb6
  have hbel6 := hbel5.trans hb6
  clear hbel5 hb6
  go_wp2_with fail
  rw [rounds_succ]
  go_wp2_with (at_builtin; refine halted ?_)
  refine wpl_append_bytes bt rfl _ _ rfl base [bb (n / 72057594037927936), bb (n / 281474976710656), bb (n / 1099511627776), bb (n / 4294967296), bb (n / 16777216), bb (n / 65536)] hown6 (Nat.le_trans hb hbel6.size) _ [bb (n / 256)] ?_ rfl (by simp [lim]) ?_
  · simp only [List.map_cons, List.map_nil, byteV_bb]
  clear hown6
  intro v7 w7 hown7 hb7
  have hbel7 := hbel6.trans hb7
  clear hbel6 hb7
  go_wp2_with fail
  rw [rounds_succ]
  go_wp2_with (at_builtin; refine halted ?_)
  refine wpl_append_bytes bt rfl _ _ rfl base [bb (n / 72057594037927936), bb (n / 281474976710656), bb (n / 1099511627776), bb (n / 4294967296), bb (n / 16777216), bb (n / 65536), bb (n / 256)] hown7 (Nat.le_trans hb hbel7.size) _ [bb n] ?_ rfl (by simp [lim]) ?_
  · simp only [List.map_cons, List.map_nil, byteV_bb]
  clear hown7
  intro v8 w8 hown8 hb8
  have hbel8 := hbel7.trans hb8
  clear hbel7 hb8
  go_wp2_with fail
  rw [rounds_succ]
  go_wp2
  go_ret
  exact .mk hown8 hbel8

theorem bv64_and127 (n : Nat) (h : n < 18446744073709551616) : (BitVec.ofNat 64 n &&& BitVec.ofNat 64 127).toNat = n % 128 := by
  have e := Nat.and_two_pow_sub_one_eq_mod n 7
  rw [BitVec.toNat_and, BitVec.toNat_ofNat, BitVec.toNat_ofNat, Nat.mod_eq_of_lt h]
  exact e
theorem bv8_or128 (n : Nat) (h : n < 128) : (BitVec.ofNat 8 n ||| BitVec.ofNat 8 128).toNat = n + 128 := by
  have e := Nat.two_pow_add_eq_or_of_lt (i := 7) (b := n) h 1
  rw [BitVec.toNat_or, BitVec.toNat_ofNat, BitVec.toNat_ofNat, Nat.mod_eq_of_lt (by omega), Nat.or_comm]
  simp at e ⊢
  omega
theorem and127_64 (n : Nat) (h : n < 18446744073709551616) : bits BinOp.and IntKind.u64 (n : Int) 127 = ((n % 128 : Nat) : Int) := by
  have e := bv64_and127 n h
  have e2 : bits BinOp.and IntKind.u64 (n : Int) 127 = IntKind.u64.wrap (((BitVec.ofNat 64 n &&& BitVec.ofNat 64 127).toNat : Nat) : Int) := by
    unfold bits
    rfl
  rw [e2, e, IntKind.wrap_u64]
  omega
theorem or128_8 (n : Nat) (h : n < 128) : bits BinOp.or IntKind.u8 (n : Int) 128 = ((n + 128 : Nat) : Int) := by
  have e := bv8_or128 n h
  have e2 : bits BinOp.or IntKind.u8 (n : Int) 128 = IntKind.u8.wrap (((BitVec.ofNat 8 n ||| BitVec.ofNat 8 128).toNat : Nat) : Int) := by
    unfold bits
    rfl
  rw [e2, e, IntKind.wrap_u8]
  omega
theorem seven64 (n : Nat) (h : n < 18446744073709551616) : bits BinOp.or IntKind.u8 (bits BinOp.and IntKind.u64 (n : Int) 127 % 256) 128 = ((n % 128 + 128 : Nat) : Int) := by
  rw [and127_64 n h, show (((n % 128 : Nat) : Int) % 256) = ((n % 128 : Nat) : Int) by omega, or128_8 (n % 128) (by omega)]
set_option maxRecDepth 100000 in
set_option maxHeartbeats 1600000 in
theorem spUvarint1 (n : Nat) (h0 : 0 ≤ n) (h1 : n ≤ 127) (base : Nat) (w : World) (hb : base ≤ w.heap.size) : Gives Tryz.prog 51 #[.int .u64 n] w base (uv n) := by
  rw [uv1 (by omega)]
  have hown0 := Own.nil base w
  have hbel0 := Below.refl base w
  go_enter Tryz.func51, Tryz.ntmps51
  go_wp2_with fail
  refine wp_loop_rounds 1 ?_
  rw [rounds_succ]
  go_wp2_with (at_builtin; refine halted ?_)
  refine wpl_append_bytes bt rfl _ _ rfl base [] hown0 (Nat.le_trans hb hbel0.size) _ [UInt8.ofNat (n)] ?_ rfl (by simp [lim]) ?_
  · simp only [List.map_cons, List.map_nil, byteV_nat (show n < 256 by omega)]
    try rw [show ((((n) : Nat) : Int) % 256) = (((n) : Nat) : Int) by omega]
  intro v1 w1 hown1 hb1
  have hbel1 := hbel0.trans hb1
  go_wp2
  go_ret
  exact .mk hown1 hbel1
set_option maxRecDepth 100000 in
set_option maxHeartbeats 1600000 in
theorem spUvarint2 (n : Nat) (h0 : 128 ≤ n) (h1 : n ≤ 16383) (base : Nat) (w : World) (hb : base ≤ w.heap.size) : Gives Tryz.prog 51 #[.int .u64 n] w base (uv n) := by
  rw [uv2 (by omega) (by omega)]
  have hown0 := Own.nil base w
  have hbel0 := Below.refl base w
  go_enter Tryz.func51, Tryz.ntmps51
  go_wp2_with fail
  refine wp_loop_rounds 2 ?_
  rw [rounds_succ]
  go_wp2_with (at_builtin; refine halted ?_)
  refine wpl_append_bytes bt rfl _ _ rfl base [] hown0 (Nat.le_trans hb hbel0.size) _ [UInt8.ofNat (n % 128 + 128)] ?_ rfl (by simp [lim]) ?_
  · simp only [List.map_cons, List.map_nil, byteV_nat (show n % 128 + 128 < 256 by omega)]
    rw [seven64 (n) (by omega)]
  clear hown0
  intro v1 w1 hown1 hb1
  have hbel1 := hbel0.trans hb1
  clear hbel0 hb1
  go_wp2_with fail
  rw [rounds_succ]
  go_wp2_with (at_builtin; refine halted ?_)
  refine wpl_append_bytes bt rfl _ _ rfl base [UInt8.ofNat (n % 128 + 128)] hown1 (Nat.le_trans hb hbel1.size) _ [UInt8.ofNat (n / 128)] ?_ rfl (by simp [lim]) ?_
  · simp only [List.map_cons, List.map_nil, byteV_nat (show n / 128 < 256 by omega)]
    rw [show ((n : Int) / 128) = ((n / 128 : Nat) : Int) by omega]
    try rw [show ((((n / 128) : Nat) : Int) % 256) = (((n / 128) : Nat) : Int) by omega]
  intro v2 w2 hown2 hb2
  have hbel2 := hbel1.trans hb2
  go_wp2
  go_ret
  exact .mk hown2 hbel2
set_option maxRecDepth 100000 in
set_option maxHeartbeats 1600000 in
theorem spUvarint3 (n : Nat) (h0 : 16384 ≤ n) (h1 : n ≤ 2097151) (base : Nat) (w : World) (hb : base ≤ w.heap.size) : Gives Tryz.prog 51 #[.int .u64 n] w base (uv n) := by
  rw [uv3 (by omega) (by omega)]
  have hown0 := Own.nil base w
  have hbel0 := Below.refl base w
  go_enter Tryz.func51, Tryz.ntmps51
  go_wp2_with fail
  refine wp_loop_rounds 3 ?_
  rw [rounds_succ]
  go_wp2_with (at_builtin; refine halted ?_)
  refine wpl_append_bytes bt rfl _ _ rfl base [] hown0 (Nat.le_trans hb hbel0.size) _ [UInt8.ofNat (n % 128 + 128)] ?_ rfl (by simp [lim]) ?_
  · simp only [List.map_cons, List.map_nil, byteV_nat (show n % 128 + 128 < 256 by omega)]
    rw [seven64 (n) (by omega)]
  clear hown0
  intro v1 w1 hown1 hb1
  have hbel1 := hbel0.trans hb1
  clear hbel0 hb1
  go_wp2_with fail
  rw [rounds_succ]
  go_wp2_with (at_builtin; refine halted ?_)
  refine wpl_append_bytes bt rfl _ _ rfl base [UInt8.ofNat (n % 128 + 128)] hown1 (Nat.le_trans hb hbel1.size) _ [UInt8.ofNat (n / 128 % 128 + 128)] ?_ rfl (by simp [lim]) ?_
  · simp only [List.map_cons, List.map_nil, byteV_nat (show n / 128 % 128 + 128 < 256 by omega)]
    rw [show ((n : Int) / 128) = ((n / 128 : Nat) : Int) by omega]
    rw [seven64 (n / 128) (by omega)]
  clear hown1
  intro v2 w2 hown2 hb2
  have hbel2 := hbel1.trans hb2
  clear hbel1 hb2
  go_wp2_with fail
  rw [rounds_succ]
  go_wp2_with (at_builtin; refine halted ?_)
  refine wpl_append_bytes bt rfl _ _ rfl base [UInt8.ofNat (n % 128 + 128), UInt8.ofNat (n / 128 % 128 + 128)] hown2 (Nat.le_trans hb hbel2.size) _ [UInt8.ofNat (n / 16384)] ?_ rfl (by simp [lim]) ?_
  · simp only [List.map_cons, List.map_nil, byteV_nat (show n / 16384 < 256 by omega)]
    rw [show ((n : Int) / 128 / 128) = ((n / 16384 : Nat) : Int) by omega]
    try rw [show ((((n / 16384) : Nat) : Int) % 256) = (((n / 16384) : Nat) : Int) by omega]
  intro v3 w3 hown3 hb3
  have hbel3 := hbel2.trans hb3
  go_wp2
  go_ret
  exact .mk hown3 hbel3
set_option maxRecDepth 100000 in
set_option maxHeartbeats 1600000 in
theorem spUvarint4 (n : Nat) (h0 : 2097152 ≤ n) (h1 : n ≤ 268435455) (base : Nat) (w : World) (hb : base ≤ w.heap.size) : Gives Tryz.prog 51 #[.int .u64 n] w base (uv n) := by
  rw [uv4 (by omega) (by omega)]
  have hown0 := Own.nil base w
  have hbel0 := Below.refl base w
  go_enter Tryz.func51, Tryz.ntmps51
  go_wp2_with fail
  refine wp_loop_rounds 4 ?_
  rw [rounds_succ]
  go_wp2_with (at_builtin; refine halted ?_)
  refine wpl_append_bytes bt rfl _ _ rfl base [] hown0 (Nat.le_trans hb hbel0.size) _ [UInt8.ofNat (n % 128 + 128)] ?_ rfl (by simp [lim]) ?_
  · simp only [List.map_cons, List.map_nil, byteV_nat (show n % 128 + 128 < 256 by omega)]
    rw [seven64 (n) (by omega)]
  clear hown0
  intro v1 w1 hown1 hb1
  have hbel1 := hbel0.trans hb1
  clear hbel0 hb1
  go_wp2_with fail
  rw [rounds_succ]
  go_wp2_with (at_builtin; refine halted ?_)
  refine wpl_append_bytes bt rfl _ _ rfl base [UInt8.ofNat (n % 128 + 128)] hown1 (Nat.le_trans hb hbel1.size) _ [UInt8.ofNat (n / 128 % 128 + 128)] ?_ rfl (by simp [lim]) ?_
  · simp only [List.map_cons, List.map_nil, byteV_nat (show n / 128 % 128 + 128 < 256 by omega)]
    rw [show ((n : Int) / 128) = ((n / 128 : Nat) : Int) by omega]
    rw [seven64 (n / 128) (by omega)]
  clear hown1
  intro v2 w2 hown2 hb2
  have hbel2 := hbel1.trans hb2
  clear hbel1 hb2
  go_wp2_with fail
  rw [rounds_succ]
  go_wp2_with (at_builtin; refine halted ?_)
  refine wpl_append_bytes bt rfl _ _ rfl base [UInt8.ofNat (n % 128 + 128), UInt8.ofNat (n / 128 % 128 + 128)] hown2 (Nat.le_trans hb hbel2.size) _ [UInt8.ofNat (n / 16384 % 128 + 128)] ?_ rfl (by simp [lim]) ?_
  · simp only [List.map_cons, List.map_nil, byteV_nat (show n / 16384 % 128 + 128 < 256 by omega)]
    rw [show ((n : Int) / 128 / 128) = ((n / 16384 : Nat) : Int) by omega]
    rw [seven64 (n / 16384) (by omega)]
  clear hown2
  intro v3 w3 hown3 hb3
  have hbel3 := hbel2.trans hb3
  clear hbel2 hb3
  go_wp2_with fail
  rw [rounds_succ]
  go_wp2_with (at_builtin; refine halted ?_)
  refine wpl_append_bytes bt rfl _ _ rfl base [UInt8.ofNat (n % 128 + 128), UInt8.ofNat (n / 128 % 128 + 128), UInt8.ofNat (n / 16384 % 128 + 128)] hown3 (Nat.le_trans hb hbel3.size) _ [UInt8.ofNat (n / 2097152)] ?_ rfl (by simp [lim]) ?_
  · simp only [List.map_cons, List.map_nil, byteV_nat (show n / 2097152 < 256 by omega)]
    rw [show ((n : Int) / 128 / 128 / 128) = ((n / 2097152 : Nat) : Int) by omega]
    try rw [show ((((n / 2097152) : Nat) : Int) % 256) = (((n / 2097152) : Nat) : Int) by omega]
  intro v4 w4 hown4 hb4
  have hbel4 := hbel3.trans hb4
  go_wp2
  go_ret
  exact .mk hown4 hbel4
set_option maxRecDepth 100000 in
set_option maxHeartbeats 1600000 in
theorem spUvarint5 (n : Nat) (h0 : 268435456 ≤ n) (h1 : n ≤ 4294967295) (base : Nat) (w : World) (hb : base ≤ w.heap.size) : Gives Tryz.prog 51 #[.int .u64 n] w base (uv n) := by
  rw [uv5 (by omega) (by omega)]
  have hown0 := Own.nil base w
  have hbel0 := Below.refl base w
  go_enter Tryz.func51, Tryz.ntmps51
  go_wp2_with fail
  refine wp_loop_rounds 5 ?_
  rw [rounds_succ]
  go_wp2_with (at_builtin; refine halted ?_)
  refine wpl_append_bytes bt rfl _ _ rfl base [] hown0 (Nat.le_trans hb hbel0.size) _ [UInt8.ofNat (n % 128 + 128)] ?_ rfl (by simp [lim]) ?_
  · simp only [List.map_cons, List.map_nil, byteV_nat (show n % 128 + 128 < 256 by omega)]
    rw [seven64 (n) (by omega)]
  clear hown0
  intro v1 w1 hown1 hb1
  have hbel1 := hbel0.trans hb1
  clear hbel0 hb1
  go_wp2_with fail
  rw [rounds_succ]
  go_wp2_with (at_builtin; refine halted ?_)
  refine wpl_append_bytes bt rfl _ _ rfl base [UInt8.ofNat (n % 128 + 128)] hown1 (Nat.le_trans hb hbel1.size) _ [UInt8.ofNat (n / 128 % 128 + 128)] ?_ rfl (by simp [lim]) ?_
  · simp only [List.map_cons, List.map_nil, byteV_nat (show n / 128 % 128 + 128 < 256 by omega)]
    rw [show ((n : Int) / 128) = ((n / 128 : Nat) : Int) by omega]
    rw [seven64 (n / 128) (by omega)]
  clear hown1
  intro v2 w2 hown2 hb2
  have hbel2 := hbel1.trans hb2
  clear hbel1 hb2
  go_wp2_with fail
  rw [rounds_succ]
  go_wp2_with (at_builtin; refine halted ?_)
  refine wpl_append_bytes bt rfl _ _ rfl base [UInt8.ofNat (n % 128 + 128), UInt8.ofNat (n / 128 % 128 + 128)] hown2 (Nat.le_trans hb hbel2.size) _ [UInt8.ofNat (n / 16384 % 128 + 128)] ?_ rfl (by simp [lim]) ?_
  · simp only [List.map_cons, List.map_nil, byteV_nat (show n / 16384 % 128 + 128 < 256 by omega)]
    rw [show ((n : Int) / 128 / 128) = ((n / 16384 : Nat) : Int) by omega]
    rw [seven64 (n / 16384) (by omega)]
  clear hown2
  intro v3 w3 hown3 hb3
  have hbel3 := hbel2.trans hb3
  clear hbel2 hb3
  go_wp2_with fail
  rw [rounds_succ]
  go_wp2_with (at_builtin; refine halted ?_)
  refine wpl_append_bytes bt rfl _ _ rfl base [UInt8.ofNat (n % 128 + 128), UInt8.ofNat (n / 128 % 128 + 128), UInt8.ofNat (n / 16384 % 128 + 128)] hown3 (Nat.le_trans hb hbel3.size) _ [UInt8.ofNat (n / 2097152 % 128 + 128)] ?_ rfl (by simp [lim]) ?_
  · simp only [List.map_cons, List.map_nil, byteV_nat (show n / 2097152 % 128 + 128 < 256 by omega)]
    rw [show ((n : Int) / 128 / 128 / 128) = ((n / 2097152 : Nat) : Int) by omega]
    rw [seven64 (n / 2097152) (by omega)]
  clear hown3
  intro v4 w4 hown4 hb4
  have hbel4 := hbel3.trans hb4
  clear hbel3 hb4
  go_wp2_with fail
  rw [rounds_succ]
  go_wp2_with (at_builtin; refine halted ?_)
  refine wpl_append_bytes bt rfl _ _ rfl base [UInt8.ofNat (n % 128 + 128), UInt8.ofNat (n / 128 % 128 + 128), UInt8.ofNat (n / 16384 % 128 + 128), UInt8.ofNat (n / 2097152 % 128 + 128)] hown4 (Nat.le_trans hb hbel4.size) _ [UInt8.ofNat (n / 268435456)] ?_ rfl (by simp [lim]) ?_
  · simp only [List.map_cons, List.map_nil, byteV_nat (show n / 268435456 < 256 by omega)]
    rw [show ((n : Int) / 128 / 128 / 128 / 128) = ((n / 268435456 : Nat) : Int) by omega]
    try rw [show ((((n / 268435456) : Nat) : Int) % 256) = (((n / 268435456) : Nat) : Int) by omega]
  intro v5 w5 hown5 hb5
  have hbel5 := hbel4.trans hb5
  go_wp2
  go_ret
  exact .mk hown5 hbel5
theorem spUvarint (n : Nat) (h : n ≤ 4294967295) (base : Nat) (w : World) (hb : base ≤ w.heap.size) : Gives Tryz.prog 51 #[.int .u64 n] w base (uv n) := by
  by_cases h1 : n ≤ 127
  · exact spUvarint1 n (by omega) h1 base w hb
  by_cases h2 : n ≤ 16383
  · exact spUvarint2 n (by omega) h2 base w hb
  by_cases h3 : n ≤ 2097151
  · exact spUvarint3 n (by omega) h3 base w hb
  by_cases h4 : n ≤ 268435455
  · exact spUvarint4 n (by omega) h4 base w hb
  · exact spUvarint5 n (by omega) h base w hb
end Go.Proofs.YtmpilpgabelmiaaGreatDoor
