/- Unknown tags: how many there are; one tag, written. -/
import Derived.Test.YtellhjpdpaeieaaDoorTgc
namespace Go.Proofs.YtellhjpdpaeieaaDoor
open Go Go.RowKit Go.Maps
set_option linter.unusedVariables false

/-- 'append(dst, a, b, ..)' of bytes: the literal has just been laid. -/
theorem wpl_append_bytesG {P : Program} {w : World} {ops : Array Oper} {rest : List Oper} {o : Oper} {a : Act} {Q : Exit → Act → World → Prop} {t : TypeId} (T : BytesT P t 5) (hgd : o.guard = none) (s x : Operand)
    (ho : o.op = .call { callee := .builtin .append, args := #[s, x], argTypes := #[t, t] }) (base : Nat) (bs : List UInt8) (hown : Own base w (a.eval s) bs) (hb : base ≤ w.heap.size)
    (cs : List Value) (bs' : List UInt8) (hcs : cs = bs'.map byteV) (hx : a.eval x = .slice (some ⟨w.heap.size, 0, none⟩) cs.length cs.length) (hl : bs.length + bs'.length ≤ lim)
    (h : ∀ v' w', Own base w' v' (bs ++ bs') → w.grownBy w' (a.eval s).ownBlock → wpList P ops Q rest (a.put o.dst v') w') : wpList P ops Q (o :: rest) a (w.alloc (.cells cs.toArray 5)) := by
  obtain ⟨i, hi, hz, hs, hby⟩ := T.info
  subst hcs
  rw [List.length_map] at hx
  refine wpl_append_src hgd s x t t ho base 5 i (.int .u8 0) 1 1 T.under hi hz hs hby rfl (a.eval s) bs.length (bs.map byteV) rfl (World.ownsRow.alloc hown _) _ bs'.length (bs'.map byteV) hx
    (Src.ofSlice _ T.under _ _ _ _ (by simp) ?_ ?_) (lim_max hl) (lim_room hl) (by simp; omega) ?_
  · intro j u hj
    rw [Addr.add_lit, (Blk.alloc_new w (bs'.map byteV) _).cell]
    simpa using hj
  · intro u hu
    obtain ⟨_, _, rfl⟩ := List.mem_map.1 hu
    rfl
  · intro v' w' hown' hg _
    refine h v' w' ?_ ?_
    · unfold Own
      simpa using hown'
    · exact ⟨hg.os, hg.tape, hg.output, Nat.le_trans (by simp) hg.size, fun k hk hne => (hg.block k (by simp; omega) hne).trans (Below.heap_alloc w _ k hk)⟩

/-- 'append(dst, src...)' of bytes that lie in memory (or are nil), or of a text. -/
theorem wpl_append_fromG {P : Program} {w : World} {ops : Array Oper} {rest : List Oper} {o : Oper} {a : Act} {Q : Exit → Act → World → Prop} {t tx : TypeId} (T : BytesT P t 5) (hgd : o.guard = none) (s x : Operand)
    (ho : o.op = .call { callee := .builtin .append, args := #[s, x], argTypes := #[t, tx] }) (base : Nat) (bs : List UInt8) (hown : Own base w (a.eval s) bs) (hb : base ≤ w.heap.size)
    (bs' : List UInt8) (hsrc : Src P 1 tx (a.eval x) bs'.length (bs'.map byteV) w) (hl : bs.length + bs'.length ≤ lim)
    (h : ∀ v' w', Own base w' v' (bs ++ bs') → w.grownBy w' (a.eval s).ownBlock → wpList P ops Q rest (a.put o.dst v') w') : wpList P ops Q (o :: rest) a w := by
  obtain ⟨i, hi, hz, hs, hby⟩ := T.info
  refine wpl_append_src hgd s x t tx ho base 5 i (.int .u8 0) 1 1 T.under hi hz hs hby rfl (a.eval s) bs.length (bs.map byteV) rfl hown _ bs'.length (bs'.map byteV) rfl hsrc (lim_max hl) (lim_room hl) hb ?_
  intro v' w' hown' hg _
  refine h v' w' ?_ ?_
  · unfold Own
    simpa using hown'
  · exact hg

/-- Function f appends; but for the bytes' own block nothing has turned. -/
def AppG (P : Program) (f : Nat) (arg : Value) (new : List UInt8) : Prop :=
  ∀ (base : Nat) (w : World) (v : Value) (bs : List UInt8), Own base w v bs → base ≤ w.heap.size → bs.length + new.length ≤ lim → Calls P f #[v, arg] w fun e w' => ∃ v', e = .returned v' ∧ Own base w' v' (bs ++ new) ∧ w.grownBy w' v.ownBlock
set_option maxRecDepth 100000 in
set_option maxHeartbeats 1000000 in
theorem uvG1 (n : Nat) (h0 : 0 ≤ n) (h1 : n ≤ 127) : AppG Tryd.prog 56 (.int .u32 n) (uv n) := by
  intro base w v bs hown hb hl
  have hu : ulen n = 1 := by unfold ulen; split <;> (try split) <;> (try split) <;> (try split) <;> omega
  rw [uv1 (by omega)] at hl ⊢
  go_enter Tryd.func56, Tryd.ntmps56
  go_wp2_with fail
  refine (uvarintLen w n (by omega) (by omega)).mono ?_
  rintro e w' ⟨rfl, rfl⟩
  rw [hu]
  clear hu
  go_wp2_with (at_builtin; refine halted ?_)
  refine wpl_append_bytesG bt rfl _ _ rfl base bs hown hb _ [UInt8.ofNat n] ?_ rfl hl ?_
  · simp only [List.map_cons, List.map_nil, byteV_nat (show n < 256 by omega)]
    all_goals rfl
  intro v' w' hown' hbel
  go_wp2
  go_ret
  exact ⟨_, rfl, hown', hbel⟩
set_option maxRecDepth 100000 in
set_option maxHeartbeats 1000000 in
theorem uvG2 (n : Nat) (h0 : 128 ≤ n) (h1 : n ≤ 16383) : AppG Tryd.prog 56 (.int .u32 n) (uv n) := by
  intro base w v bs hown hb hl
  have hu : ulen n = 2 := by unfold ulen; split <;> (try split) <;> (try split) <;> (try split) <;> omega
  rw [uv2 (by omega) (by omega)] at hl ⊢
  go_enter Tryd.func56, Tryd.ntmps56
  go_wp2_with fail
  refine (uvarintLen w n (by omega) (by omega)).mono ?_
  rintro e w' ⟨rfl, rfl⟩
  rw [hu]
  clear hu
  go_wp2_with (at_builtin; refine halted ?_)
  refine wpl_append_bytesG bt rfl _ _ rfl base bs hown hb _ [UInt8.ofNat (n % 128 + 128), UInt8.ofNat (n / 128)] ?_ rfl hl ?_
  · simp only [List.map_cons, List.map_nil, byteV_nat (show n % 128 + 128 < 256 by omega), byteV_nat (show n / 128 < 256 by omega)]
    rw [show ((n : Int) / 128) = ((n / 128 : Nat) : Int) by omega, seven (n) (by omega)]
  intro v' w' hown' hbel
  go_wp2
  go_ret
  exact ⟨_, rfl, hown', hbel⟩
set_option maxRecDepth 100000 in
set_option maxHeartbeats 1000000 in
theorem uvG3 (n : Nat) (h0 : 16384 ≤ n) (h1 : n ≤ 2097151) : AppG Tryd.prog 56 (.int .u32 n) (uv n) := by
  intro base w v bs hown hb hl
  have hu : ulen n = 3 := by unfold ulen; split <;> (try split) <;> (try split) <;> (try split) <;> omega
  rw [uv3 (by omega) (by omega)] at hl ⊢
  go_enter Tryd.func56, Tryd.ntmps56
  go_wp2_with fail
  refine (uvarintLen w n (by omega) (by omega)).mono ?_
  rintro e w' ⟨rfl, rfl⟩
  rw [hu]
  clear hu
  go_wp2_with (at_builtin; refine halted ?_)
  refine wpl_append_bytesG bt rfl _ _ rfl base bs hown hb _ [UInt8.ofNat (n % 128 + 128), UInt8.ofNat (n / 128 % 128 + 128), UInt8.ofNat (n / 16384)] ?_ rfl hl ?_
  · simp only [List.map_cons, List.map_nil, byteV_nat (show n % 128 + 128 < 256 by omega), byteV_nat (show n / 128 % 128 + 128 < 256 by omega), byteV_nat (show n / 16384 < 256 by omega)]
    rw [show ((n : Int) / 128) = ((n / 128 : Nat) : Int) by omega, show ((n : Int) / 16384) = ((n / 16384 : Nat) : Int) by omega, seven (n) (by omega), seven (n / 128) (by omega)]
  intro v' w' hown' hbel
  go_wp2
  go_ret
  exact ⟨_, rfl, hown', hbel⟩
set_option maxRecDepth 100000 in
set_option maxHeartbeats 1000000 in
theorem uvG4 (n : Nat) (h0 : 2097152 ≤ n) (h1 : n ≤ 268435455) : AppG Tryd.prog 56 (.int .u32 n) (uv n) := by
  intro base w v bs hown hb hl
  have hu : ulen n = 4 := by unfold ulen; split <;> (try split) <;> (try split) <;> (try split) <;> omega
  rw [uv4 (by omega) (by omega)] at hl ⊢
  go_enter Tryd.func56, Tryd.ntmps56
  go_wp2_with fail
  refine (uvarintLen w n (by omega) (by omega)).mono ?_
  rintro e w' ⟨rfl, rfl⟩
  rw [hu]
  clear hu
  go_wp2_with (at_builtin; refine halted ?_)
  refine wpl_append_bytesG bt rfl _ _ rfl base bs hown hb _ [UInt8.ofNat (n % 128 + 128), UInt8.ofNat (n / 128 % 128 + 128), UInt8.ofNat (n / 16384 % 128 + 128), UInt8.ofNat (n / 2097152)] ?_ rfl hl ?_
  · simp only [List.map_cons, List.map_nil, byteV_nat (show n % 128 + 128 < 256 by omega), byteV_nat (show n / 128 % 128 + 128 < 256 by omega), byteV_nat (show n / 16384 % 128 + 128 < 256 by omega), byteV_nat (show n / 2097152 < 256 by omega)]
    rw [show ((n : Int) / 128) = ((n / 128 : Nat) : Int) by omega, show ((n : Int) / 16384) = ((n / 16384 : Nat) : Int) by omega, show ((n : Int) / 2097152) = ((n / 2097152 : Nat) : Int) by omega, seven (n) (by omega), seven (n / 128) (by omega), seven (n / 16384) (by omega)]
  intro v' w' hown' hbel
  go_wp2
  go_ret
  exact ⟨_, rfl, hown', hbel⟩
set_option maxRecDepth 100000 in
set_option maxHeartbeats 1000000 in
theorem uvG5 (n : Nat) (h0 : 268435456 ≤ n) (h1 : n ≤ 4294967295) : AppG Tryd.prog 56 (.int .u32 n) (uv n) := by
  intro base w v bs hown hb hl
  have hu : ulen n = 5 := by unfold ulen; split <;> (try split) <;> (try split) <;> (try split) <;> omega
  rw [uv5 (by omega) (by omega)] at hl ⊢
  go_enter Tryd.func56, Tryd.ntmps56
  go_wp2_with fail
  refine (uvarintLen w n (by omega) (by omega)).mono ?_
  rintro e w' ⟨rfl, rfl⟩
  rw [hu]
  clear hu
  go_wp2_with (at_builtin; refine halted ?_)
  refine wpl_append_bytesG bt rfl _ _ rfl base bs hown hb _ [UInt8.ofNat (n % 128 + 128), UInt8.ofNat (n / 128 % 128 + 128), UInt8.ofNat (n / 16384 % 128 + 128), UInt8.ofNat (n / 2097152 % 128 + 128), UInt8.ofNat (n / 268435456)] ?_ rfl hl ?_
  · simp only [List.map_cons, List.map_nil, byteV_nat (show n % 128 + 128 < 256 by omega), byteV_nat (show n / 128 % 128 + 128 < 256 by omega), byteV_nat (show n / 16384 % 128 + 128 < 256 by omega), byteV_nat (show n / 2097152 % 128 + 128 < 256 by omega), byteV_nat (show n / 268435456 < 256 by omega)]
    rw [show ((n : Int) / 128) = ((n / 128 : Nat) : Int) by omega, show ((n : Int) / 16384) = ((n / 16384 : Nat) : Int) by omega, show ((n : Int) / 2097152) = ((n / 2097152 : Nat) : Int) by omega, show ((n : Int) / 268435456) = ((n / 268435456 : Nat) : Int) by omega, seven (n) (by omega), seven (n / 128) (by omega), seven (n / 16384) (by omega), seven (n / 2097152) (by omega)]
  intro v' w' hown' hbel
  go_wp2
  go_ret
  exact ⟨_, rfl, hown', hbel⟩
theorem uvG (n : Nat) (h : n ≤ 4294967295) : AppG Tryd.prog 56 (.int .u32 n) (uv n) := by
  by_cases h1 : n ≤ 127
  · exact uvG1 n (by omega) h1
  by_cases h2 : n ≤ 16383
  · exact uvG2 n (by omega) h2
  by_cases h3 : n ≤ 2097151
  · exact uvG3 n (by omega) h3
  by_cases h4 : n ≤ 268435455
  · exact uvG4 n (by omega) h4
  · exact uvG5 n (by omega) h

/-- What stands in a block of w that holds no octets stands in w', too. -/
structure Turn (q : Nat) (w w' : World) : Prop where
  os : w'.os = w.os
  tape : w'.tape = w.tape
  output : w'.output = w.output
  size : w.heap.size ≤ w'.heap.size
  block : ∀ b, b < w.heap.size → b ≠ q → (∀ cur fr, w.heap[b]? ≠ some (.cells cur 5 fr)) → w'.heap[b]? = w.heap[b]?
theorem Turn.refl (q : Nat) (w : World) : Turn q w w := ⟨rfl, rfl, rfl, Nat.le_refl _, fun _ _ _ _ => rfl⟩
theorem Turn.trans {q : Nat} {a b c : World} (h : Turn q a b) (k : Turn q b c) : Turn q a c :=
  ⟨k.os.trans h.os, k.tape.trans h.tape, k.output.trans h.output, Nat.le_trans h.size k.size, fun i hi hq hn => by
    have e := h.block i hi hq hn
    exact (k.block i (Nat.lt_of_lt_of_le hi h.size) hq (fun cur fr => by rw [e]; exact hn cur fr)).trans e⟩
theorem Turn.setCell {q : Nat} {a b : World} (h : Turn q a b) (i : Nat) (x : Value) : Turn q a (b.setCell ⟨q, i, none⟩ x) :=
  h.trans ⟨rfl, rfl, rfl, by simp [World.setCell], fun k _ hk _ => Below.heap_setCell _ _ _ _ (fun e => hk (by first | exact e | exact e.symm))⟩
theorem Turn.grown {q base : Nat} {w w' : World} {v : Value} {bs : List UInt8} (hown : Own base w v bs) (hg : w.grownBy w' v.ownBlock) : Turn q w w' :=
  ⟨hg.os, hg.tape, hg.output, hg.size, fun b hb _ hn => hg.block b hb (fun e => by
    rcases hown.2 with ⟨rfl, -⟩ | ⟨g, cap, cur, rfl, -, hgg, -⟩
    · cases e
    · cases e; exact hn _ _ hgg)⟩
theorem Own.below_grown {base B : Nat} {w w' : World} {v : Value} {bs : List UInt8} (hown : Own base w v bs) (hB : B ≤ base) (hb : B ≤ w.heap.size) (hg : w.grownBy w' v.ownBlock) : Below B w w' :=
  (Below.refl _ _).grown hg hb (fun k hk => by have := (hown.lt k hk).1; omega)
set_option maxHeartbeats 1000000 in
theorem tagsLen {w0 w : World} {b o : Nat} {l : List (Nat × List UInt8)} (h : TagMem [] w0 b o l) (hb : Below w0.heap.size w0 w) : Calls Tryd.prog 57 #[.pointer (some ⟨b, o, none⟩)] w fun e w' => e = .returned (.int .i64 l.length) ∧ w = w' := by
  obtain ⟨m, n, D, hc, hm, hn, hv, -, -⟩ := h
  have m0 : w.cell? ⟨b, o, none⟩ = some (.map m) := (hb.cell (p := ⟨b, o, none⟩) (World.block_lt_of_cell? w0 _ hc)).trans hc
  have hsz := hv.size
  cases m with
  | none =>
    cases hm
    have hl : l.length = 0 := by rw [← hsz]; rfl
    clear hc hn hv hsz
    rw [hl]
    go_enter Tryd.func57, Tryd.ntmps57
    go_wp2
    go_ret
    exact ⟨rfl, rfl⟩
  | some g =>
    have hown : w.ownsMap Tryd.prog 56 R0 g n D := ownsMap_block hm (hb.block g (World.ownsMap.lt hm))
    rw [← hsz]
    clear hc hn hv hsz hm
    go_enter Tryd.func57, Tryd.ntmps57
    go_wp2_with (first
      | (at_len; refine wpList_len_own _ rfl _ 48 rfl 56 22 Tryd.underlying48 _ g n D rfl hown ?_)
      | go_in)
    go_ret
    exact ⟨rfl, rfl⟩
theorem own_shape {base : Nat} {w : World} {v : Value} {bs : List UInt8} (h : Own base w v bs) : ∃ a c, v = .slice a bs.length c := by
  rcases h.2 with ⟨rfl, hn⟩ | ⟨g, cap, cur, rfl, -⟩
  · exact ⟨none, 0, by rw [hn]⟩
  · exact ⟨_, _, rfl⟩
/-- One tag, appended to the bytes in cell q. -/
def TagPut (w0 : World) (q : Nat) (bs : List UInt8) (w : World) (e : Ending) (w' : World) : Prop := e = .returned (.tuple #[]) ∧ ∃ x', Blk w' q [x'] 22 ∧ Own w0.heap.size w' x' bs ∧ Turn q w w' ∧ Below w0.heap.size w0 w'
theorem own_set {base q i T : Nat} {w : World} {v : Value} {c : List Value} {bs : List UInt8} (h : Own base w v bs) (hB : Blk w q c T) (hT : T ≠ 5) (u : Value) : Own base (w.setCell ⟨q, i, none⟩ u) v bs := by
  refine ⟨h.1, ?_⟩
  rcases h.2 with hn | ⟨g, cap, cur, rfl, h1, h2, h3⟩
  · exact .inl hn
  · refine .inr ⟨g, cap, cur, rfl, h1, ?_, h3⟩
    rw [Below.heap_setCell _ _ _ _ (fun e => ?_)]
    · exact h2
    · subst e
      unfold Blk at hB
      rw [h2] at hB
      simp at hB
      exact hT hB.2.symm
theorem blk_grown {base q T : Nat} {w w' : World} {v : Value} {c : List Value} {bs : List UInt8} (hown : Own base w v bs) (hg : w.grownBy w' v.ownBlock) (hB : Blk w q c T) (hT : T ≠ 5) : Blk w' q c T := by
  refine (hg.block q hB.lt (fun e => ?_)).trans hB
  rcases hown.2 with ⟨rfl, -⟩ | ⟨g, cap, cur, rfl, -, hgg, -⟩
  · cases e
  · cases e
    unfold Blk at hB
    rw [hgg] at hB
    simp at hB
    exact hT hB.2.symm
set_option maxHeartbeats 2000000 in
theorem tagPut {w0 w : World} {q k : Nat} {x v : Value} {bs val : List UInt8} (hB : Below w0.heap.size w0 w) (hv : RB [] w0 v val) (hq : w0.heap.size ≤ q) (hblk : Blk w q [x] 22) (hown : Own w0.heap.size w x bs) (hk : k ≤ 4294967295) (hval : val.length ≤ 2147483646) (hl : bs.length + (apTags [(k, val)]).length ≤ lim) :
    Calls Tryd.prog 87 #[.int .u32 (k : Nat), v, .pointer (some ⟨q, 0, none⟩)] w (TagPut w0 q (bs ++ apTags [(k, val)]) w) := by
  have e0 : apTags [(k, val)] = uv k ++ uv val.length ++ val := by simp [apTags]
  rw [e0] at hl ⊢
  simp only [List.length_append] at hl
  have hbs := hB.size
  obtain ⟨sad, scap, rfl, -⟩ : ∃ a cap, v = .slice a val.length cap ∧ True := by obtain ⟨a, cap, h, -⟩ := hv; exact ⟨a, cap, h, trivial⟩
  have m0 := hblk.cell_some (i := 0) rfl
  have f0 := hblk.frozen 0
  have C1 := Lib.hid (uvG k hk w0.heap.size w x bs hown hbs (by omega))
  have X0 := Lib.hid (And.intro hB (And.intro hblk (And.intro hown (And.intro hv (And.intro hbs (And.intro hl hval))))))
  clear hB hown hv hbs hl hblk hval
  have hz0 : (0 : Int) ≤ (val.length : Nat) := by omega
  have hz1 : ((val.length : Nat) : Int) ≤ 2147483646 := by have := X0.out.2.2.2.2.2.2; omega
  go_enter Tryd.func87, Tryd.ntmps87
  go_wp2_with fail
  refine C1.out.mono ?_
  rintro e w1 ⟨x1, rfl, o1, g1⟩
  obtain ⟨ya, yc, hx1⟩ := own_shape o1
  generalize (bs ++ uv k).length = yn at hx1
  subst hx1
  have b1 := blk_grown X0.out.2.2.1 g1 X0.out.2.1 (by decide)
  have m1 := b1.cell_some (i := 0) rfl
  have f1 := b1.frozen 0
  have o1' := own_set (i := 0) o1 b1 (by decide) (.slice ya yn yc)
  have b1' := b1.set 0 (.slice ya yn yc)
  have hs1 : w0.heap.size ≤ (w1.setCell ⟨q, 0, none⟩ (.slice ya yn yc)).heap.size := by have := g1.size; have := X0.out.2.2.2.2.1; simp [World.setCell]; omega
  have C2 := Lib.hid (uvG val.length (by omega) w0.heap.size _ _ (bs ++ uv k) o1' hs1 (by have := X0.out.2.2.2.2.2.1; simp only [List.length_append]; omega))
  have X1 := Lib.hid (And.intro o1 (And.intro g1 (And.intro b1 (And.intro o1' (And.intro b1' hs1)))))
  clear C1 o1 g1 b1 o1' b1' hs1 m0 f0
  go_wp2_with fail
  refine C2.out.mono ?_
  rintro e w2 ⟨x2, rfl, o2, g2⟩
  obtain ⟨za, zc, hx2⟩ := own_shape o2
  generalize (bs ++ uv k ++ uv val.length).length = zn at hx2
  subst hx2
  have b2 := blk_grown X1.out.2.2.2.1 g2 X1.out.2.2.2.2.1 (by decide)
  have m2 := b2.cell_some (i := 0) rfl
  have f2 := b2.frozen 0
  have o2' := own_set (i := 0) o2 b2 (by decide) (.slice za zn zc)
  have hs2 : w0.heap.size ≤ (w2.setCell ⟨q, 0, none⟩ (.slice za zn zc)).heap.size := by have := g2.size; have := X1.out.2.2.2.2.2; simp [World.setCell] at *; omega
  have bel1 : Below w0.heap.size w0 (w1.setCell ⟨q, 0, none⟩ (.slice ya yn yc)) := (X0.out.1.trans (Own.below_grown X0.out.2.2.1 (Nat.le_refl _) X0.out.2.2.2.2.1 X1.out.2.1)).setCell hq _
  have bel2 : Below w0.heap.size w0 (w2.setCell ⟨q, 0, none⟩ (.slice za zn zc)) := (bel1.trans (Own.below_grown X1.out.2.2.2.1 (Nat.le_refl _) X1.out.2.2.2.2.2 g2)).setCell hq _
  have hv2 : RB [] (w2.setCell ⟨q, 0, none⟩ (.slice za zn zc)) (.slice sad val.length scap) val := X0.out.2.2.2.1.keeps (Keeps.of_below bel2 (Nat.le_refl _))
  have X2 := Lib.hid (And.intro o2' (And.intro hs2 (And.intro bel2 (And.intro hv2 (And.intro b2 (And.intro g2 (b2.set 0 (.slice za zn zc))))))))
  clear C2 o2 g2 b2 o2' hs2 bel1 bel2 hv2 m1 f1
  go_wp2_with (at_builtin; refine halted ?_)
  refine wpl_append_fromG bt rfl _ _ rfl w0.heap.size (bs ++ uv k ++ uv val.length) X2.out.1 X2.out.2.1 val (Src.ofRB Tryd.underlying22 X2.out.2.2.2.1) (by have := X0.out.2.2.2.2.2.1; simp only [List.length_append]; omega) ?_
  intro x3 w3 o3 g3
  obtain ⟨ta, tc, hx3⟩ := own_shape o3
  generalize (bs ++ uv k ++ uv val.length ++ val).length = tn at hx3
  subst hx3
  have b3 := blk_grown X2.out.1 g3 X2.out.2.2.2.2.2.2 (by decide)
  have m3 := b3.cell_some (i := 0) rfl
  have f3 := b3.frozen 0
  have X3 := Lib.hid (And.intro o3 (And.intro g3 b3))
  clear o3 g3 b3 m2 f2
  go_wp2
  go_end0
  refine ⟨rfl, .slice ta tn tc, X3.out.2.2.set 0 _, ?_, ?_, ?_⟩
  · have h := own_set (i := 0) X3.out.1 X3.out.2.2 (by decide) (.slice ta tn tc)
    simpa only [List.append_assoc] using h
  · exact ((((Turn.grown X0.out.2.2.1 X1.out.2.1).setCell 0 _).trans (Turn.grown X1.out.2.2.2.1 X2.out.2.2.2.2.2.1)).setCell 0 _).trans (Turn.grown X2.out.1 X3.out.2.1) |>.setCell 0 _
  · exact (X2.out.2.2.1.trans (Own.below_grown X2.out.1 (Nat.le_refl _) X2.out.2.1 X3.out.2.1)).setCell hq _
end Go.Proofs.YtellhjpdpaeieaaDoor
