/- A message of the elder formats is written as the reference writes it: a head of fixed numbers, its key and its value, each with its length ahead in four octets. -/
import Derived.Test.YtfchajjllhndlaaKa
import Derived.Test.YtfchajjllhndlaaMq
import Derived.Lib.Hide
import Derived.Deep.RegionHeld3
namespace Go.Proofs.Ytfchajjllhndlaa
open Go Go.RowKit
theorem step_append_from {P : Program} {w : World} {ops : Array Oper} {o : Oper} {a : Act} {K : Act → World → Prop} {Q : Exit → Act → World → Prop} {E : Prop} {t tx : TypeId} (T : BytesT P t 5) (hgd : o.guard = none) (s x : Operand)
    (ho : o.op = .call { callee := .builtin .append, args := #[s, x], argTypes := #[t, tx] }) (base : Nat) (bs : List UInt8) (hown : Own base w (a.eval s) bs) (hb : base ≤ w.heap.size)
    (bs' : List UInt8) (hsrc : Src P 1 tx (a.eval x) bs'.length (bs'.map byteV) w) (hl : bs.length + bs'.length ≤ lim)
    (h : ∀ v' w', Own base w' v' (bs ++ bs') → Below base w w' → K (a.put o.dst v') w') : if Region.wanted o (yielded ops a.tmps) = true then Oper.wp P o a w K Q else E := by
  have hw : Region.wanted o (yielded ops a.tmps) = true := by simp [Region.wanted, hgd]
  rw [if_pos hw]
  obtain ⟨i, hi, hz, hs, hby⟩ := T.info
  refine wp_append_src s x t tx ho base 5 i (.int .u8 0) 1 1 T.under hi hz hs hby rfl (a.eval s) bs.length (bs.map byteV) rfl hown _ bs'.length (bs'.map byteV) rfl hsrc (lim_max hl) (lim_room hl) hb ?_
  intro v' w' hown' hg _
  refine h v' w' ?_ ?_
  · unfold Own
    simpa using hown'
  · exact (Below.refl _ _).grown hg hb (fun k hk => by
      have := hown.lt k hk
      omega)
theorem Own.stay {base n : Nat} {w w' : World} {v : Value} {bs : List UInt8} (h : Own base w v bs) (hb : Below n w w') (hn : w.heap.size ≤ n) : Own base w' v bs := by
  refine ⟨h.1, ?_⟩
  rcases h.2 with hz | ⟨g, cap, cur, hv, hbg, hg, rest⟩
  · exact .inl hz
  · have hlt : g < w.heap.size := (Array.getElem?_eq_some_iff.1 hg).1
    exact .inr ⟨g, cap, cur, hv, hbg, (hb.block g (by omega)).trans hg, rest⟩
theorem Own.rl {base : Nat} {w : World} {v : Value} {bs : List UInt8} (h : Own base w v bs) : RL w.heap.size w v bs := (h.rb [] (by simp)).rl
theorem run_equalIn_slice_nil {P : Program} (w : World) (d : Nat) {T E : Nat} (hT : P.underlying T = some (.slice E)) (ad : Option Addr) (n c : Nat) : (Op.equalIn (d + 1) T (.slice ad n c) (.slice none 0 0)).run P w = .ok ad.isNone w := by
  cases ad <;> simp [Op.equalIn, run_underlying hT]
theorem run_eql_slice_nil' {P : Program} (w : World) {T E : Nat} (hT : P.underlying T = some (.slice E)) (ad : Option Addr) (n c : Nat) : (binOp .eql T (.slice ad n c) (.slice none 0 0)).run P w = .ok (.bool ad.isNone) w := by
  simp only [binOp, Op.equal, Op.maxDepth]
  simp [run_equalIn_slice_nil w 9999 hT ad n c]
theorem RL.up {B B' : Nat} {w : World} {v : Value} {bs : List UInt8} (h : RL B w v bs) (hB : B ≤ B') : RL B' w v bs := by
  obtain ⟨a, cap, hv, h1, h2, h3⟩ := h
  refine ⟨a, cap, hv, h1, h2, fun hne => ?_⟩
  obtain ⟨b, o, ha, hb, hc⟩ := h3 hne
  exact ⟨b, o, ha, by omega, hc⟩
end Go.Proofs.Ytfchajjllhndlaa
namespace Go.Proofs.Ytfchajjllhndlaa.makeOld
open Go Go.RowKit
set_option linter.unusedVariables false

def fixedB (n : Int) (size : Nat) : List UInt8 := if size = 1 then [bb n] else if size = 2 then be16 n else if size = 4 then be32 n else be64 n
set_option maxRecDepth 100000 in
set_option maxHeartbeats 1600000 in
theorem spFixed4 (n : Int) (base : Nat) (w : World) (hb : base ≤ w.heap.size) : Calls Try.prog 21 #[.int .i64 n, .int .i64 4] w (Appended base w (be32 n)) := by
  have hown0 := Own.nil base w
  have hbel0 := Below.refl base w
  go_enter Try.func21, Try.ntmps21
  go_wp2_with fail
  refine wp_loop_rounds 5 ?_
  rw [rounds_succ]
  go_wp2_with (at_builtin; refine halted ?_)
  refine wpl_append_bytes bt rfl _ _ rfl base [] hown0 (Nat.le_trans hb hbel0.size) _ [bb (n / 16777216)] ?_ rfl (by simp [lim]) ?_
  · simp only [List.map_cons, List.map_nil, byteV_bb]
  clear hown0
  intro v1 w1 hown1 hb1
  have hbel1 := hbel0.trans hb1
  clear hbel0 hb1
  go_wp2_with fail
  rw [rounds_succ]
  go_wp2_with (at_builtin; refine halted ?_)
  refine wpl_append_bytes bt rfl _ _ rfl base [bb (n / 16777216)] hown1 (Nat.le_trans hb hbel1.size) _ [bb (n / 65536)] ?_ rfl (by simp [lim]) ?_
  · simp only [List.map_cons, List.map_nil, byteV_bb]
  clear hown1
  intro v2 w2 hown2 hb2
  have hbel2 := hbel1.trans hb2
  clear hbel1 hb2
  go_wp2_with fail
  rw [rounds_succ]
  go_wp2_with (at_builtin; refine halted ?_)
  refine wpl_append_bytes bt rfl _ _ rfl base [bb (n / 16777216), bb (n / 65536)] hown2 (Nat.le_trans hb hbel2.size) _ [bb (n / 256)] ?_ rfl (by simp [lim]) ?_
  · simp only [List.map_cons, List.map_nil, byteV_bb]
  clear hown2
  intro v3 w3 hown3 hb3
  have hbel3 := hbel2.trans hb3
  clear hbel2 hb3
  go_wp2_with fail
  rw [rounds_succ]
  go_wp2_with (at_builtin; refine halted ?_)
  refine wpl_append_bytes bt rfl _ _ rfl base [bb (n / 16777216), bb (n / 65536), bb (n / 256)] hown3 (Nat.le_trans hb hbel3.size) _ [bb n] ?_ rfl (by simp [lim]) ?_
  · simp only [List.map_cons, List.map_nil, byteV_bb]
  clear hown3
  intro v4 w4 hown4 hb4
  have hbel4 := hbel3.trans hb4
  clear hbel3 hb4
  go_wp2_with fail
  rw [rounds_succ]
  go_wp2
  go_ret
  exact .mk hown4 hbel4
set_option maxRecDepth 100000 in
set_option maxHeartbeats 1600000 in
theorem spFixed8 (n : Int) (base : Nat) (w : World) (hb : base ≤ w.heap.size) : Calls Try.prog 21 #[.int .i64 n, .int .i64 8] w (Appended base w (be64 n)) := by
  have hown0 := Own.nil base w
  have hbel0 := Below.refl base w
  go_enter Try.func21, Try.ntmps21
  go_wp2_with fail
  refine wp_loop_rounds 9 ?_
  rw [rounds_succ]
  go_wp2_with (at_builtin; refine halted ?_)
  refine wpl_append_bytes bt rfl _ _ rfl base [] hown0 (Nat.le_trans hb hbel0.size) _ [bb (n / 72057594037927936)] ?_ rfl (by simp [lim]) ?_
  · simp only [List.map_cons, List.map_nil, byteV_bb]
  clear hown0
  intro v1 w1 hown1 hb1
  have hbel1 := hbel0.trans hb1
  clear hbel0 hb1
  go_wp2_with fail
  rw [rounds_succ]
  go_wp2_with (at_builtin; refine halted ?_)
  refine wpl_append_bytes bt rfl _ _ rfl base [bb (n / 72057594037927936)] hown1 (Nat.le_trans hb hbel1.size) _ [bb (n / 281474976710656)] ?_ rfl (by simp [lim]) ?_
  · simp only [List.map_cons, List.map_nil, byteV_bb]
  clear hown1
  intro v2 w2 hown2 hb2
  have hbel2 := hbel1.trans hb2
  clear hbel1 hb2
  go_wp2_with fail
  rw [rounds_succ]
  go_wp2_with (at_builtin; refine halted ?_)
  refine wpl_append_bytes bt rfl _ _ rfl base [bb (n / 72057594037927936), bb (n / 281474976710656)] hown2 (Nat.le_trans hb hbel2.size) _ [bb (n / 1099511627776)] ?_ rfl (by simp [lim]) ?_
  · simp only [List.map_cons, List.map_nil, byteV_bb]
  clear hown2
  intro v3 w3 hown3 hb3
  have hbel3 := hbel2.trans hb3
  clear hbel2 hb3
  go_wp2_with fail
  rw [rounds_succ]
  go_wp2_with (at_builtin; refine halted ?_)
  refine wpl_append_bytes bt rfl _ _ rfl base [bb (n / 72057594037927936), bb (n / 281474976710656), bb (n / 1099511627776)] hown3 (Nat.le_trans hb hbel3.size) _ [bb (n / 4294967296)] ?_ rfl (by simp [lim]) ?_
  · simp only [List.map_cons, List.map_nil, byteV_bb]
  clear hown3
  intro v4 w4 hown4 hb4
  have hbel4 := hbel3.trans hb4
  clear hbel3 hb4
  go_wp2_with fail
  rw [rounds_succ]
  go_wp2_with (at_builtin; refine halted ?_)
  refine wpl_append_bytes bt rfl _ _ rfl base [bb (n / 72057594037927936), bb (n / 281474976710656), bb (n / 1099511627776), bb (n / 4294967296)] hown4 (Nat.le_trans hb hbel4.size) _ [bb (n / 16777216)] ?_ rfl (by simp [lim]) ?_
  · simp only [List.map_cons, List.map_nil, byteV_bb]
  clear hown4
  intro v5 w5 hown5 hb5
  have hbel5 := hbel4.trans hb5
  clear hbel4 hb5
  go_wp2_with fail
  rw [rounds_succ]
  go_wp2_with (at_builtin; refine halted ?_)
  refine wpl_append_bytes bt rfl _ _ rfl base [bb (n / 72057594037927936), bb (n / 281474976710656), bb (n / 1099511627776), bb (n / 4294967296), bb (n / 16777216)] hown5 (Nat.le_trans hb hbel5.size) _ [bb (n / 65536)] ?_ rfl (by simp [lim]) ?_
  · simp only [List.map_cons, List.map_nil, byteV_bb]
  clear hown5
  intro v6 w6 hown6 hb6
  have hbel6 := hbel5.trans hb6
  clear hbel5 hb6
  go_wp2_with fail
  rw [rounds_succ]
  go_wp2_with (at_builtin; refine halted ?_)
  refine wpl_append_bytes bt rfl _ _ rfl base [bb (n / 72057594037927936), bb (n / 281474976710656), bb (n / 1099511627776), bb (n / 4294967296), bb (n / 16777216), bb (n / 65536)] hown6 (Nat.le_trans hb hbel6.size) _ [bb (n / 256)] ?_ rfl (by simp [lim]) ?_
  · simp only [List.map_cons, List.map_nil, byteV_bb]
  clear hown6
  intro v7 w7 hown7 hb7
  have hbel7 := hbel6.trans hb7
  clear hbel6 hb7
  go_wp2_with fail
  rw [rounds_succ]
  go_wp2_with (at_builtin; refine halted ?_)
  refine wpl_append_bytes bt rfl _ _ rfl base [bb (n / 72057594037927936), bb (n / 281474976710656), bb (n / 1099511627776), bb (n / 4294967296), bb (n / 16777216), bb (n / 65536), bb (n / 256)] hown7 (Nat.le_trans hb hbel7.size) _ [bb n] ?_ rfl (by simp [lim]) ?_
  · simp only [List.map_cons, List.map_nil, byteV_bb]
  clear hown7
  intro v8 w8 hown8 hb8
  have hbel8 := hbel7.trans hb8
  clear hbel7 hb8
  go_wp2_with fail
  rw [rounds_succ]
  go_wp2
  go_ret
  exact .mk hown8 hbel8

/-- Octets that may be null, in memory. -/
def NB (B : Nat) (w : World) (v : Value) : Option (List UInt8) → Prop
  | none => v = .slice none 0 0
  | some bs => RL B w v bs ∧ ∃ ad n c, v = .slice (some ad) n c
theorem NB.below {B : Nat} {w w' : World} {v : Value} : ∀ {o : Option (List UInt8)}, NB B w v o → Below B w w' → NB B w' v o
  | none, h, _ => h
  | some _, h, hb => ⟨h.1.below hb, h.2⟩
theorem NB.mono {B B' : Nat} {w : World} {v : Value} : ∀ {o : Option (List UInt8)}, NB B w v o → B ≤ B' → NB B' w v o
  | none, h, _ => h
  | some _, h, hb => ⟨RL.up h.1 hb, h.2⟩
def oct (nl : Bool) (bs : List UInt8) : Option (List UInt8) := if nl then none else some bs
/-- What is written of octets that may be null. -/
def pOct : Option (List UInt8) → List UInt8
  | none => be32 (-1)
  | some bs => be32 bs.length ++ bs

set_option maxRecDepth 100000 in
set_option maxHeartbeats 1600000 in
theorem nullOK (nl : Bool) (dv : Value) (bs : List UInt8) (B : Nat) (w : World) (h : RL B w dv bs) (hB : B ≤ w.heap.size) (hl : bs.length ≤ lim) :
    Calls Try.prog 18 #[.agg #[.bool nl, dv]] w fun e w' => ∃ v, e = .returned v ∧ NB w'.heap.size w' v (oct nl bs) ∧ Below w.heap.size w w' := by
  obtain ⟨a, cap, rfl, -⟩ := id h
  have hbel := (Below.refl w.heap.size w).alloc (Nat.le_refl _) (.cells #[.bool nl, .slice a bs.length cap] 32)
  have H := Lib.hid (And.intro h hbel)
  clear h hbel
  cases nl
  · go_enter Try.func18, Try.ntmps18
    go_wp2_with (at_builtin; refine halted ?_)
    obtain ⟨i, hi, hz, hs, hby⟩ := bt.info
    have hE := Blk.alloc_new (w.alloc (.cells #[.bool false, .slice a bs.length cap] 32)) [] 5
    have hsz : (w.alloc (.cells #[.bool false, .slice a bs.length cap] 32)).heap.size = w.heap.size + 1 := by simp
    have hbel := H.out.2.alloc (by simp) (.cells #[] 5)
    rw [hsz] at hE
    have hW2 : ((w.alloc (.cells #[.bool false, .slice a bs.length cap] 32)).alloc (.cells #[] 5)).heap.size = w.heap.size + 2 := by simp
    generalize (w.alloc (.cells #[.bool false, .slice a bs.length cap] 32)).alloc (.cells #[] 5) = w2 at *
    have hO : w2.ownsRow (w.heap.size + 1) 5 1 (.slice (some ⟨w.heap.size + 1, 0, none⟩) 0 0) 0 [] := ⟨rfl, .inr ⟨w.heap.size + 1, 0, #[], rfl, Nat.le_refl _, hE, Nat.le_refl _, by unfold maxLen; omega, rfl, rfl⟩⟩
    refine wpl_append_src rfl (.tmp 5) (.tmp 7) 29 29 rfl (w.heap.size + 1) 5 i (.int .u8 0) 1 1 bt.under hi hz hs hby rfl _ 0 [] rfl hO _ bs.length (bs.map byteV) rfl (Src.ofRL Try.underlying29 ((H.out.1.below (hbel.mono hB)))) (lim_max (by simpa using hl)) (lim_room (by simpa using hl)) (by omega) ?_
    intro v3 w3 hown3 hg3 hnil
    have hown : Own (w.heap.size + 1) w3 v3 bs := by unfold Own; simpa using hown3
    have hb3 : Below w.heap.size w w3 := hbel.grown hg3 (by omega) (fun k hk => by have := (hO.lt k hk).1; omega)
    obtain ⟨ad, n, c, rfl⟩ : ∃ ad n c, v3 = .slice (some ad) n c := by
      rcases hown3.2 with ⟨rfl, -⟩ | ⟨g, cap', cur, rfl, -⟩
      · have h : Value.slice (some ⟨w.heap.size + 1, 0, none⟩) 0 0 = .slice none 0 0 := (hnil.1 rfl).1
        cases h
      · exact ⟨_, _, _, rfl⟩
    have Z := Lib.hid (And.intro hown hb3)
    clear hown hb3 hown3 hg3 hnil hO hE hbel
    go_wp2
    go_ret
    exact ⟨_, rfl, ⟨Z.out.1.rl, _, _, _, rfl⟩, Z.out.2⟩
  · go_enter Try.func18, Try.ntmps18
    go_wp2
    go_ret
    exact ⟨_, rfl, rfl, H.out.2⟩
set_option maxHeartbeats 400000 in
theorem ownOK (dv : Value) (bs : List UInt8) (B base : Nat) (w : World) (h : RL B w dv bs) (hb : base ≤ w.heap.size) (hl : bs.length ≤ lim) :
    Calls Try.prog 20 #[dv] w (Appended base w bs) := by
  obtain ⟨a, cap, rfl, -⟩ := id h
  have H := Lib.hid h
  clear h
  go_enter Try.func20, Try.ntmps20
  go_wp2_with (at_builtin; refine halted ?_)
  refine wpl_append_from bt rfl _ _ rfl base [] (World.ownsRow_nil ..) hb bs (Src.ofRL Try.underlying29 H.out) (by simpa using hl) ?_
  intro v3 w3 hown3 hbel3
  rw [List.nil_append] at hown3
  have Z := Lib.hid (And.intro hown3 hbel3)
  clear hown3 hbel3
  go_wp2
  go_ret
  exact .mk Z.out.1 Z.out.2
set_option maxHeartbeats 400000 in
theorem nbOK (o : Option (List UInt8)) (x : Value) (hn : ∀ b, o = some b → b.length ≤ 2147483647) (base : Nat) (w : World) (v : Value) (bs : List UInt8) (hx : NB base w x o) (hown : Own base w v bs) (hb : base ≤ w.heap.size) (hl : bs.length + (pOct o).length ≤ lim) :
    Calls Try.prog 27 #[v, x] w (AppendedB base w (bs ++ pOct o)) := by
  cases o with
  | none =>
    obtain rfl : x = .slice none 0 0 := hx
    have hq := fun w => run_eql_slice_nil' (P := Try.prog) w Try.underlying29 none 0 0
    go_enter Try.func27, Try.ntmps27
    go_wp2_with fail
    refine (bInt32 (-1) (by omega) (by omega) base w v bs hown hb hl).mono ?_
    rintro e w' ⟨v', rfl, hown', hbel⟩
    go_wp2
    go_ret
    exact .mk hown' hbel
  | some b =>
    obtain ⟨hr, ad, n, c, rfl⟩ := hx
    have hq := fun w => run_eql_slice_nil' (P := Try.prog) w Try.underlying29 (some ad) n c
    go_enter Try.func27, Try.ntmps27
    go_wp2_with fail
    refine (bBytes b (hn b rfl) _ base w v bs hr hown hb hl).mono ?_
    rintro e w' ⟨v', rfl, hown', hbel⟩
    go_wp2
    go_ret
    exact .mk hown' hbel
set_option maxRecDepth 100000 in
set_option maxHeartbeats 1600000 in
theorem appV0 (off sz crc mg att : Int) (hsz : -2147483648 ≤ sz ∧ sz ≤ 2147483647) (hcrc : -2147483648 ≤ crc ∧ crc ≤ 2147483647) (hmg : -128 ≤ mg ∧ mg ≤ 127) (hatt : -128 ≤ att ∧ att ≤ 127) (kx vx : Value) (ko vo : Option (List UInt8)) (hkn : ∀ b, ko = some b → b.length ≤ 2147483647) (hvn : ∀ b, vo = some b → b.length ≤ 2147483647)
    (base b : Nat) (w : World) (v : Value) (bs : List UInt8) (hB : Blk w b [.int .i64 off, .int .i32 sz, .int .i32 crc, .int .i8 mg, .int .i8 att, kx, vx] 52) (hk : NB base w kx ko) (hv : NB base w vx vo) (hown : Own base w v bs) (hb : base ≤ w.heap.size) (hl : bs.length + (be64 off ++ be32 sz ++ be32 crc ++ [bb mg] ++ [bb att] ++ pOct ko ++ pOct vo).length ≤ lim) :
    Calls Try.prog 23 #[.pointer (some ⟨b, 0, none⟩), v] w (AppendedB base w (bs ++ (be64 off ++ be32 sz ++ be32 crc ++ [bb mg] ++ [bb att] ++ pOct ko ++ pOct vo))) := by
  simp only [List.length_append] at hl
  have hbel0 := Bel.refl base w
  have H := Lib.hid (And.intro hB (And.intro hk hv))
  have m0 := hB.cell_some (i := 0) rfl
  clear hB hk hv
  go_enter Try.func23, Try.ntmps23
  go_wp2_with fail
  refine (bInt64 off base _ _ _ hown (Nat.le_trans hb hbel0.size) (by (try simp only [List.length_append]); omega)).mono ?_
  rintro e w1 ⟨v1, rfl, hown1, hb1⟩
  have hbel1 := hbel0.trans hb1
  clear hb1 m0
  have m1 := (hbel1.fr b 52 _ (by decide) H.out.1).cell_some (i := 1) rfl
  go_wp2_with fail
  refine (bInt32 sz hsz.1 hsz.2 base _ _ _ hown1 (Nat.le_trans hb hbel1.size) (by (try simp only [List.length_append]); omega)).mono ?_
  rintro e w2 ⟨v2, rfl, hown2, hb2⟩
  have hbel2 := hbel1.trans hb2
  clear hb2 m1
  have m2 := (hbel2.fr b 52 _ (by decide) H.out.1).cell_some (i := 2) rfl
  go_wp2_with fail
  refine (bInt32 crc hcrc.1 hcrc.2 base _ _ _ hown2 (Nat.le_trans hb hbel2.size) (by (try simp only [List.length_append]); omega)).mono ?_
  rintro e w3 ⟨v3, rfl, hown3, hb3⟩
  have hbel3 := hbel2.trans hb3
  clear hb3 m2
  have m3 := (hbel3.fr b 52 _ (by decide) H.out.1).cell_some (i := 3) rfl
  go_wp2_with fail
  refine (bInt8 mg hmg.1 hmg.2 base _ _ _ hown3 (Nat.le_trans hb hbel3.size) (by (try simp only [List.length_append]); omega)).mono ?_
  rintro e w4 ⟨v4, rfl, hown4, hb4⟩
  have hbel4 := hbel3.trans hb4
  clear hb4 m3
  have m4 := (hbel4.fr b 52 _ (by decide) H.out.1).cell_some (i := 4) rfl
  go_wp2_with fail
  refine (bInt8 att hatt.1 hatt.2 base _ _ _ hown4 (Nat.le_trans hb hbel4.size) (by (try simp only [List.length_append]); omega)).mono ?_
  rintro e w5 ⟨v5, rfl, hown5, hb5⟩
  have hbel5 := hbel4.trans hb5
  clear hb5 m4
  have m5 := (hbel5.fr b 52 _ (by decide) H.out.1).cell_some (i := 5) rfl
  go_wp2_with fail
  refine (nbOK ko kx hkn base _ _ _ (H.out.2.1.below hbel5.bel) hown5 (Nat.le_trans hb hbel5.size) (by (try simp only [List.length_append]); omega)).mono ?_
  rintro e w6 ⟨v6, rfl, hown6, hb6⟩
  have hbel6 := hbel5.trans hb6
  clear hb6 m5
  have m6 := (hbel6.fr b 52 _ (by decide) H.out.1).cell_some (i := 6) rfl
  go_wp2_with fail
  refine (nbOK vo vx hvn base _ _ _ (H.out.2.2.below hbel6.bel) hown6 (Nat.le_trans hb hbel6.size) (by (try simp only [List.length_append]); omega)).mono ?_
  rintro e w7 ⟨v7, rfl, hown7, hb7⟩
  have hbel7 := hbel6.trans hb7
  clear hb7 m6
  go_wp2
  go_ret
  have e : bs ++ be64 off ++ be32 sz ++ be32 crc ++ [bb mg] ++ [bb att] ++ pOct ko ++ pOct vo = bs ++ (be64 off ++ be32 sz ++ be32 crc ++ [bb mg] ++ [bb att] ++ pOct ko ++ pOct vo) := by simp only [List.append_assoc]
  rw [e] at hown7
  exact .mk hown7 hbel7
set_option maxRecDepth 100000 in
set_option maxHeartbeats 1600000 in
theorem appV1 (off sz crc mg att tm : Int) (hsz : -2147483648 ≤ sz ∧ sz ≤ 2147483647) (hcrc : -2147483648 ≤ crc ∧ crc ≤ 2147483647) (hmg : -128 ≤ mg ∧ mg ≤ 127) (hatt : -128 ≤ att ∧ att ≤ 127) (kx vx : Value) (ko vo : Option (List UInt8)) (hkn : ∀ b, ko = some b → b.length ≤ 2147483647) (hvn : ∀ b, vo = some b → b.length ≤ 2147483647)
    (base b : Nat) (w : World) (v : Value) (bs : List UInt8) (hB : Blk w b [.int .i64 off, .int .i32 sz, .int .i32 crc, .int .i8 mg, .int .i8 att, .int .i64 tm, kx, vx] 47) (hk : NB base w kx ko) (hv : NB base w vx vo) (hown : Own base w v bs) (hb : base ≤ w.heap.size) (hl : bs.length + (be64 off ++ be32 sz ++ be32 crc ++ [bb mg] ++ [bb att] ++ be64 tm ++ pOct ko ++ pOct vo).length ≤ lim) :
    Calls Try.prog 19 #[.pointer (some ⟨b, 0, none⟩), v] w (AppendedB base w (bs ++ (be64 off ++ be32 sz ++ be32 crc ++ [bb mg] ++ [bb att] ++ be64 tm ++ pOct ko ++ pOct vo))) := by
  simp only [List.length_append] at hl
  have hbel0 := Bel.refl base w
  have H := Lib.hid (And.intro hB (And.intro hk hv))
  have m0 := hB.cell_some (i := 0) rfl
  clear hB hk hv
  go_enter Try.func19, Try.ntmps19
  go_wp2_with fail
  refine (bInt64 off base _ _ _ hown (Nat.le_trans hb hbel0.size) (by (try simp only [List.length_append]); omega)).mono ?_
  rintro e w1 ⟨v1, rfl, hown1, hb1⟩
  have hbel1 := hbel0.trans hb1
  clear hb1 m0
  have m1 := (hbel1.fr b 47 _ (by decide) H.out.1).cell_some (i := 1) rfl
  go_wp2_with fail
  refine (bInt32 sz hsz.1 hsz.2 base _ _ _ hown1 (Nat.le_trans hb hbel1.size) (by (try simp only [List.length_append]); omega)).mono ?_
  rintro e w2 ⟨v2, rfl, hown2, hb2⟩
  have hbel2 := hbel1.trans hb2
  clear hb2 m1
  have m2 := (hbel2.fr b 47 _ (by decide) H.out.1).cell_some (i := 2) rfl
  go_wp2_with fail
  refine (bInt32 crc hcrc.1 hcrc.2 base _ _ _ hown2 (Nat.le_trans hb hbel2.size) (by (try simp only [List.length_append]); omega)).mono ?_
  rintro e w3 ⟨v3, rfl, hown3, hb3⟩
  have hbel3 := hbel2.trans hb3
  clear hb3 m2
  have m3 := (hbel3.fr b 47 _ (by decide) H.out.1).cell_some (i := 3) rfl
  go_wp2_with fail
  refine (bInt8 mg hmg.1 hmg.2 base _ _ _ hown3 (Nat.le_trans hb hbel3.size) (by (try simp only [List.length_append]); omega)).mono ?_
  rintro e w4 ⟨v4, rfl, hown4, hb4⟩
  have hbel4 := hbel3.trans hb4
  clear hb4 m3
  have m4 := (hbel4.fr b 47 _ (by decide) H.out.1).cell_some (i := 4) rfl
  go_wp2_with fail
  refine (bInt8 att hatt.1 hatt.2 base _ _ _ hown4 (Nat.le_trans hb hbel4.size) (by (try simp only [List.length_append]); omega)).mono ?_
  rintro e w5 ⟨v5, rfl, hown5, hb5⟩
  have hbel5 := hbel4.trans hb5
  clear hb5 m4
  have m5 := (hbel5.fr b 47 _ (by decide) H.out.1).cell_some (i := 5) rfl
  go_wp2_with fail
  refine (bInt64 tm base _ _ _ hown5 (Nat.le_trans hb hbel5.size) (by (try simp only [List.length_append]); omega)).mono ?_
  rintro e w6 ⟨v6, rfl, hown6, hb6⟩
  have hbel6 := hbel5.trans hb6
  clear hb6 m5
  have m6 := (hbel6.fr b 47 _ (by decide) H.out.1).cell_some (i := 6) rfl
  go_wp2_with fail
  refine (nbOK ko kx hkn base _ _ _ (H.out.2.1.below hbel6.bel) hown6 (Nat.le_trans hb hbel6.size) (by (try simp only [List.length_append]); omega)).mono ?_
  rintro e w7 ⟨v7, rfl, hown7, hb7⟩
  have hbel7 := hbel6.trans hb7
  clear hb7 m6
  have m7 := (hbel7.fr b 47 _ (by decide) H.out.1).cell_some (i := 7) rfl
  go_wp2_with fail
  refine (nbOK vo vx hvn base _ _ _ (H.out.2.2.below hbel7.bel) hown7 (Nat.le_trans hb hbel7.size) (by (try simp only [List.length_append]); omega)).mono ?_
  rintro e w8 ⟨v8, rfl, hown8, hb8⟩
  have hbel8 := hbel7.trans hb8
  clear hb8 m7
  go_wp2
  go_ret
  have e : bs ++ be64 off ++ be32 sz ++ be32 crc ++ [bb mg] ++ [bb att] ++ be64 tm ++ pOct ko ++ pOct vo = bs ++ (be64 off ++ be32 sz ++ be32 crc ++ [bb mg] ++ [bb att] ++ be64 tm ++ pOct ko ++ pOct vo) := by simp only [List.append_assoc]
  rw [e] at hown8
  exact .mk hown8 hbel8
theorem keep2c {n g : Nat} {w w' : World} {m0 m1 : Value} (hb : Below n w w') (hg : g < n) (h : w.cell? ⟨g, 0, none⟩ = some m0 ∧ w.cell? ⟨g, 1, none⟩ = some m1) : w'.cell? ⟨g, 0, none⟩ = some m0 ∧ w'.cell? ⟨g, 1, none⟩ = some m1 :=
  ⟨(hb.cell (p := ⟨g, 0, none⟩) hg).trans h.1, (hb.cell (p := ⟨g, 1, none⟩) hg).trans h.2⟩
set_option maxRecDepth 100000 in
set_option maxHeartbeats 800000 in
theorem fixOct (nl : Bool) (dv : Value) (bs : List UInt8) (B base : Nat) (w : World) (h : RL B w dv bs) (hB : B ≤ w.heap.size) (hb : base ≤ w.heap.size) (hl : bs.length ≤ 2147483647) :
    Calls Try.prog 22 #[.agg #[.bool nl, dv]] w (Appended base w (pOct (oct nl bs))) := by
  obtain ⟨a, cap, rfl, -⟩ := id h
  have hbel := (Below.refl w.heap.size w).alloc (Nat.le_refl _) (.cells #[.bool nl, .slice a bs.length cap] 32)
  have H := Lib.hid (And.intro h hbel)
  clear h hbel
  cases nl
  · have hw : IntKind.i64.wrap (bs.length : Nat) = ((bs.length : Nat) : Int) := by rw [IntKind.wrap_i64]; omega
    have hX := Blk.alloc_new w [.bool false, .slice a bs.length cap] 32
    obtain ⟨W0, hW⟩ : ∃ W0, w.alloc (.cells #[.bool false, .slice a bs.length cap] 32) = W0 := ⟨_, rfl⟩
    have hsW : W0.drew.heap.size = w.heap.size + 1 := by rw [← hW]; simp
    have c : W0.drew.cell? ⟨w.heap.size, 0, none⟩ = some (.bool false) ∧ W0.drew.cell? ⟨w.heap.size, 1, none⟩ = some (.slice a bs.length cap) := by
      rw [← hW]
      exact ⟨hX.drew.cell_some (i := 0) rfl, hX.drew.cell_some (i := 1) rfl⟩
    have hbW : Below w.heap.size w W0.drew := by rw [← hW]; exact H.out.2.drew
    have m0 : W0.cell? ⟨w.heap.size, 0, none⟩ = some (.bool false) := by rw [← hW]; exact hX.cell_some (i := 0) rfl
    have C := Lib.hid (And.intro c hbW)
    have hlim : lim = 140737488355328 := rfl
    clear hX c hbW
    go_enter Try.func22, Try.ntmps22
    go_wp2_with fail
    go_region_held3 (fun w' => w'.cell? ⟨w.heap.size, 0, none⟩ = some (.bool false) ∧ w'.cell? ⟨w.heap.size, 1, none⟩ = some (.slice a bs.length cap))
      (first | exact C.out.1 | exact hS3 | exact hS4)
      (first
        | (go_at_call 21; refine (spFixed4 (bs.length : Nat) W0.drew.heap.size W0.drew (Nat.le_refl _)).mono ?_; rintro e w3 ⟨v3, rfl, hown3, hb3⟩; have z3 := hb3.size; have hS3 := keep2c hb3 (by omega) C.out.1)
        | (refine step_append_from bt rfl (.tmp 9) (.tmp 11) rfl W0.drew.heap.size _ hown3 (by omega) _ (Src.ofRL (B := w3.heap.size) Try.underlying29 (RL.up (H.out.1.below ((C.out.2.trans (hb3.mono (by omega))).mono hB)) (by omega))) (by simp [be32_length]; omega) ?_; intro v4 w4 hown4 hb4; have hS4 := keep2c hb4 (by omega) hS3))
    have FIN := Lib.hid (And.intro (hown4.mono (show base ≤ W0.drew.heap.size by omega)) ((C.out.2.trans ((hb3.trans hb4).mono (by omega))).mono hb))
    clear hown3 hb3 hown4 hb4 hS3 hS4
    go_wp2
    go_ret
    exact .mk FIN.out.1 FIN.out.2
  · go_enter Try.func22, Try.ntmps22
    go_wp2_with fail
    refine (spFixed4 (-1) base _ (Nat.le_trans hb H.out.2.size)).mono ?_
    rintro e w3 ⟨v3, rfl, hown3, hb3⟩
    have FIN := Lib.hid (And.intro hown3 ((H.out.2.mono hb).trans hb3))
    clear hown3 hb3
    go_wp2
    go_ret
    exact .mk FIN.out.1 FIN.out.2
theorem keepT {n g : Nat} {w w' : World} {x0 x1 x2 x3 x4 x5 x6 x7 x8 x9 : Value} (hb : Below n w w') (hg : g < n) (h : w.cell? ⟨g, 0, none⟩ = some x0 ∧ w.cell? ⟨g, 1, none⟩ = some x1 ∧ w.cell? ⟨g, 2, none⟩ = some x2 ∧ w.cell? ⟨g, 3, none⟩ = some x3 ∧ w.cell? ⟨g, 4, none⟩ = some x4 ∧ w.cell? ⟨g, 5, none⟩ = some x5 ∧ w.cell? ⟨g, 6, none⟩ = some x6 ∧ w.cell? ⟨g, 7, none⟩ = some x7 ∧ w.cell? ⟨g, 8, none⟩ = some x8 ∧ w.cell? ⟨g, 9, none⟩ = some x9) : w'.cell? ⟨g, 0, none⟩ = some x0 ∧ w'.cell? ⟨g, 1, none⟩ = some x1 ∧ w'.cell? ⟨g, 2, none⟩ = some x2 ∧ w'.cell? ⟨g, 3, none⟩ = some x3 ∧ w'.cell? ⟨g, 4, none⟩ = some x4 ∧ w'.cell? ⟨g, 5, none⟩ = some x5 ∧ w'.cell? ⟨g, 6, none⟩ = some x6 ∧ w'.cell? ⟨g, 7, none⟩ = some x7 ∧ w'.cell? ⟨g, 8, none⟩ = some x8 ∧ w'.cell? ⟨g, 9, none⟩ = some x9 := by
  have k := fun i => hb.cell (p := ⟨g, i, none⟩) hg
  obtain ⟨h0, h1, h2, h3, h4, h5, h6, h7, h8, h9⟩ := h
  exact ⟨(k 0).trans h0, (k 1).trans h1, (k 2).trans h2, (k 3).trans h3, (k 4).trans h4, (k 5).trans h5, (k 6).trans h6, (k 7).trans h7, (k 8).trans h8, (k 9).trans h9⟩
theorem ten {w : World} {b : Nat} {off sz crc mg att tm : Int} {kn vn : Bool} {ka va : Option Addr} {kb vb : List UInt8} {kc vc : Nat} (h : Blk w b [.int .i64 off, .int .i32 sz, .int .i32 crc, .int .i8 mg, .int .i8 att, .int .i64 tm, .bool kn, .slice ka kb.length kc, .bool vn, .slice va vb.length vc] 34) : w.cell? ⟨b, 0, none⟩ = some (.int .i64 off) ∧ w.cell? ⟨b, 1, none⟩ = some (.int .i32 sz) ∧ w.cell? ⟨b, 2, none⟩ = some (.int .i32 crc) ∧ w.cell? ⟨b, 3, none⟩ = some (.int .i8 mg) ∧ w.cell? ⟨b, 4, none⟩ = some (.int .i8 att) ∧ w.cell? ⟨b, 5, none⟩ = some (.int .i64 tm) ∧ w.cell? ⟨b, 6, none⟩ = some (.bool kn) ∧ w.cell? ⟨b, 7, none⟩ = some (.slice ka kb.length kc) ∧ w.cell? ⟨b, 8, none⟩ = some (.bool vn) ∧ w.cell? ⟨b, 9, none⟩ = some (.slice va vb.length vc) :=
  ⟨h.cell_some (i := 0) rfl, h.cell_some (i := 1) rfl, h.cell_some (i := 2) rfl, h.cell_some (i := 3) rfl, h.cell_some (i := 4) rfl, h.cell_some (i := 5) rfl, h.cell_some (i := 6) rfl, h.cell_some (i := 7) rfl, h.cell_some (i := 8) rfl, h.cell_some (i := 9) rfl⟩

/-- What the reference says of it. -/
def pOld (one : Bool) (off sz crc mg att tm : Int) (ko vo : Option (List UInt8)) : List UInt8 := be64 off ++ be32 sz ++ be32 crc ++ [bb mg, bb att] ++ (if one then be64 tm else []) ++ pOct ko ++ pOct vo
theorem pOct_len (o : Option (List UInt8)) : (pOct o).length ≤ 4 + (match o with | none => 0 | some b => b.length) := by cases o <;> simp [pOct, be32_length]
set_option maxRecDepth 100000 in
set_option maxHeartbeats 6400000 in
theorem oldBytes (off sz crc mg att tm : Int) (hsz : -2147483648 ≤ sz ∧ sz ≤ 2147483647) (hcrc : -2147483648 ≤ crc ∧ crc ≤ 2147483647) (hmg : -128 ≤ mg ∧ mg ≤ 127) (hatt : -128 ≤ att ∧ att ≤ 127) (kn vn : Bool) (ka va : Option Addr) (kc vc : Nat) (kb vb : List UInt8) (one : Bool) (m : Int) (hm : (one = true ∧ m = 1) ∨ (one = false ∧ m = 0)) (B base : Nat) (w : World) (hk : RL B w (.slice ka kb.length kc) kb) (hv : RL B w (.slice va vb.length vc) vb) (hB : B ≤ w.heap.size) (hb : base ≤ w.heap.size) (hl : kb.length + vb.length ≤ 131072) :
    Calls Try.prog 13 #[.int .i64 m, .agg #[.int .i64 off, .int .i32 sz, .int .i32 crc, .int .i8 mg, .int .i8 att, .int .i64 tm, .bool kn, .slice ka kb.length kc, .bool vn, .slice va vb.length vc]] w (Appended base w (pOld one off sz crc mg att tm (oct kn kb) (oct vn vb))) := by
  have hX := Blk.alloc_new w [.int .i64 off, .int .i32 sz, .int .i32 crc, .int .i8 mg, .int .i8 att, .int .i64 tm, .bool kn, .slice ka kb.length kc, .bool vn, .slice va vb.length vc] 34
  have hbel := (Below.refl w.heap.size w).alloc (Nat.le_refl _) (.cells #[.int .i64 off, .int .i32 sz, .int .i32 crc, .int .i8 mg, .int .i8 att, .int .i64 tm, .bool kn, .slice ka kb.length kc, .bool vn, .slice va vb.length vc] 34)
  obtain ⟨W0, hW⟩ : ∃ W0, w.alloc (.cells #[.int .i64 off, .int .i32 sz, .int .i32 crc, .int .i8 mg, .int .i8 att, .int .i64 tm, .bool kn, .slice ka kb.length kc, .bool vn, .slice va vb.length vc] 34) = W0 := ⟨_, rfl⟩
  have hsW : W0.drew.heap.size = w.heap.size + 1 := by rw [← hW]; simp
  have hbW : Below w.heap.size w W0.drew := by rw [← hW]; exact hbel.drew
  have c : W0.drew.cell? ⟨w.heap.size, 0, none⟩ = some (.int .i64 off) ∧ W0.drew.cell? ⟨w.heap.size, 1, none⟩ = some (.int .i32 sz) ∧ W0.drew.cell? ⟨w.heap.size, 2, none⟩ = some (.int .i32 crc) ∧ W0.drew.cell? ⟨w.heap.size, 3, none⟩ = some (.int .i8 mg) ∧ W0.drew.cell? ⟨w.heap.size, 4, none⟩ = some (.int .i8 att) ∧ W0.drew.cell? ⟨w.heap.size, 5, none⟩ = some (.int .i64 tm) ∧ W0.drew.cell? ⟨w.heap.size, 6, none⟩ = some (.bool kn) ∧ W0.drew.cell? ⟨w.heap.size, 7, none⟩ = some (.slice ka kb.length kc) ∧ W0.drew.cell? ⟨w.heap.size, 8, none⟩ = some (.bool vn) ∧ W0.drew.cell? ⟨w.heap.size, 9, none⟩ = some (.slice va vb.length vc) := by rw [← hW]; exact ten hX.drew
  have H := Lib.hid (And.intro c (And.intro hbW (And.intro hk hv)))
  have lk := pOct_len (oct kn kb)
  have lv := pOct_len (oct vn vb)
  have lk2 : (pOct (oct kn kb)).length ≤ 4 + kb.length := by cases kn <;> simp [oct, pOct, be32_length]
  have lv2 : (pOct (oct vn vb)).length ≤ 4 + vb.length := by cases vn <;> simp [oct, pOct, be32_length]
  have hlim : lim = 140737488355328 := rfl
  have HM := Lib.hid hm
  have hwsz : IntKind.i64.wrap sz = sz := by rw [IntKind.wrap_i64]; omega
  have hwcrc : IntKind.i64.wrap crc = crc := by rw [IntKind.wrap_i64]; omega
  clear hX hbel hbW hk hv c lk lv hm
  go_enter Try.func13, Try.ntmps13
  go_wp2_with fail
  go_region_held3 (fun w' => w'.cell? ⟨w.heap.size, 0, none⟩ = some (.int .i64 off) ∧ w'.cell? ⟨w.heap.size, 1, none⟩ = some (.int .i32 sz) ∧ w'.cell? ⟨w.heap.size, 2, none⟩ = some (.int .i32 crc) ∧ w'.cell? ⟨w.heap.size, 3, none⟩ = some (.int .i8 mg) ∧ w'.cell? ⟨w.heap.size, 4, none⟩ = some (.int .i8 att) ∧ w'.cell? ⟨w.heap.size, 5, none⟩ = some (.int .i64 tm) ∧ w'.cell? ⟨w.heap.size, 6, none⟩ = some (.bool kn) ∧ w'.cell? ⟨w.heap.size, 7, none⟩ = some (.slice ka kb.length kc) ∧ w'.cell? ⟨w.heap.size, 8, none⟩ = some (.bool vn) ∧ w'.cell? ⟨w.heap.size, 9, none⟩ = some (.slice va vb.length vc))
    (first | exact H.out.1 | exact hS1 | exact hS2 | exact hS3)
    (first
      | (go_at_call 21; (with_reducible refine (spFixed8 off W0.drew.heap.size W0.drew (Nat.le_refl _)).mono ?_); rintro e w1 ⟨v1, rfl, hown1, hb1⟩; have z1 := hb1.size; have hS1 := keepT hb1 (by omega) H.out.1)
      | (go_at_call 21; (with_reducible refine (spFixed4 sz w1.heap.size w1 (Nat.le_refl _)).mono ?_); rintro e w2 ⟨v2, rfl, hown2, hb2⟩; have z2 := hb2.size; have hS2 := keepT hb2 (by omega) hS1)
      | (refine step_append_from bt rfl (.tmp 8) (.tmp 12) rfl W0.drew.heap.size _ (hown1.stay hb2 (Nat.le_refl _)) (by omega) _ (Src.ofRL (B := w2.heap.size) Try.underlying29 hown2.rl) (by simp [be32_length, be64_length]; omega) ?_; intro v3 w3 hown3 hb3; have z3 := hb3.size; have hS3 := keepT hb3 (by omega) hS2))
  have b03 : Below w.heap.size w w3 := H.out.2.1.trans (((hb1.trans (hb2.mono (by omega))).trans hb3).mono (by omega))
  obtain ⟨c0, c1, c2, c3, c4, c5, c6, c7, c8, c9⟩ := id hS3
  have Z3 := Lib.hid (And.intro hown3 (And.intro b03 hS3))
  clear hown1 hown2 hown3 hb1 hb2 hb3 hS1 hS2 hS3 b03
  go_wp2_with fail
  refine (spFixed4 crc w3.heap.size w3 (Nat.le_refl _)).mono ?_
  rintro e w4 ⟨v4, rfl, hown4, hb4⟩
  have z4 := hb4.size
  have hS4 := keepT hb4 (by omega) Z3.out.2.2
  have X4 := Lib.hid (And.intro hown4 (And.intro hb4 hS4))
  clear hown4 hb4 hS4 c0 c1 c2 c3 c4 c5 c6 c7 c8 c9
  go_wp2_with (at_builtin; refine halted ?_)
  refine wpl_append_from bt rfl (.tmp 14) (.tmp 18) rfl W0.drew.heap.size _ (Z3.out.1.stay X4.out.2.1 (Nat.le_refl _)) (by omega) _ (Src.ofRL Try.underlying29 X4.out.1.rl) (by simp [be32_length, be64_length]; omega) ?_
  intro v5 w5 hown5 hb5
  have z5 := hb5.size
  have hS5 := keepT hb5 (by omega) X4.out.2.2
  obtain ⟨c0, c1, c2, c3, c4, c5, c6, c7, c8, c9⟩ := id hS5
  have b05 : Below w.heap.size w w5 := Z3.out.2.1.trans ((X4.out.2.1.mono (by omega)).trans (hb5.mono (by omega)))
  have Z5 := Lib.hid (And.intro hown5 (And.intro b05 hS5))
  clear hown5 hb5 hS5 b05
  go_wp2_with (at_builtin; refine halted ?_)
  refine wpl_append_bytes bt rfl (.tmp 20) (.tmp 27) rfl W0.drew.heap.size _ Z5.out.1 (by omega) _ [bb mg, bb att] ?_ rfl (by simp [be32_length, be64_length]; omega) ?_
  · simp only [List.map_cons, List.map_nil, byteV_bb]
  intro v6 w6 hown6 hb6
  have z6 := hb6.size
  have hS6 := keepT hb6 (by omega) Z5.out.2.2
  obtain ⟨c0, c1, c2, c3, c4, c5, c6, c7, c8, c9⟩ := id hS6
  have b06 : Below w.heap.size w w6 := Z5.out.2.1.trans (hb6.mono (by omega))
  have Z6 := Lib.hid (And.intro hown6 (And.intro b06 hS6))
  clear hown6 hb6 hS6 b06
  have z65 : W0.drew.heap.size ≤ w6.heap.size := by omega
  rcases HM.out with ⟨rfl, rfl⟩ | ⟨rfl, rfl⟩
  · go_wp2_with fail
    refine (spFixed8 tm w6.heap.size w6 (Nat.le_refl _)).mono ?_
    rintro e w7 ⟨v7, rfl, hown7, hb7⟩
    have z7 := hb7.size
    have X7 := Lib.hid (And.intro hown7 (And.intro hb7 (keepT hb7 (by omega) Z6.out.2.2)))
    clear hown7 hb7 c0 c1 c2 c3 c4 c5 c6 c7 c8 c9
    go_wp2_with (at_builtin; refine halted ?_)
    refine wpl_append_from bt rfl (.tmp 31) (.tmp 34) rfl W0.drew.heap.size _ (Z6.out.1.stay X7.out.2.1 (Nat.le_refl _)) (by omega) _ (Src.ofRL Try.underlying29 X7.out.1.rl) (by simp [be32_length, be64_length]; omega) ?_
    intro v8 w8 hown8 hb8
    have z8 := hb8.size
    have b08 : Below w.heap.size w w8 := Z6.out.2.1.trans ((X7.out.2.1.mono (by omega)).trans (hb8.mono (by omega)))
    have hS8 := keepT hb8 (by omega) X7.out.2.2
    have z85 : W0.drew.heap.size ≤ w8.heap.size := by omega
    have hC := Lib.hid (keepT (n := w8.heap.size) ((Below.refl w8.heap.size w8).drew) (by omega) hS8)
    have Z8 := Lib.hid (And.intro hown8 b08.drew)
    clear hown8 hb8 b08 hS8
    have zd : w8.drew.heap.size = w8.heap.size := rfl
    go_wp2_with fail
    go_region_held3 (fun w' => w'.cell? ⟨w.heap.size, 0, none⟩ = some (.int .i64 off) ∧ w'.cell? ⟨w.heap.size, 1, none⟩ = some (.int .i32 sz) ∧ w'.cell? ⟨w.heap.size, 2, none⟩ = some (.int .i32 crc) ∧ w'.cell? ⟨w.heap.size, 3, none⟩ = some (.int .i8 mg) ∧ w'.cell? ⟨w.heap.size, 4, none⟩ = some (.int .i8 att) ∧ w'.cell? ⟨w.heap.size, 5, none⟩ = some (.int .i64 tm) ∧ w'.cell? ⟨w.heap.size, 6, none⟩ = some (.bool kn) ∧ w'.cell? ⟨w.heap.size, 7, none⟩ = some (.slice ka kb.length kc) ∧ w'.cell? ⟨w.heap.size, 8, none⟩ = some (.bool vn) ∧ w'.cell? ⟨w.heap.size, 9, none⟩ = some (.slice va vb.length vc))
      (first | exact hC.out | exact hSa | exact hSb | exact hSc | exact hSd)
      (first
        | (go_at_call 22; (with_reducible refine (fixOct kn _ kb B w8.drew.heap.size w8.drew (H.out.2.2.1.below (Z8.out.2.mono hB)) (by omega) (Nat.le_refl _) (by omega)).mono ?_); rintro e wa ⟨va, rfl, howna, hba⟩; have za := hba.size; have hSa := keepT hba (by omega) hC.out)
        | (refine step_append_from bt rfl (.tmp 36) (.tmp 39) rfl W0.drew.heap.size _ ((Z8.out.1.drew).stay hba (Nat.le_refl _)) (by omega) _ (Src.ofRL (B := wa.heap.size) Try.underlying29 howna.rl) (by simp [be32_length, be64_length]; omega) ?_; intro vB wb hownb hbb; have zb := hbb.size; have hSb := keepT hbb (by omega) hSa; have bb0 : Below w.heap.size w wb := Z8.out.2.trans ((hba.mono (by omega)).trans (hbb.mono (by omega))))
        | (go_at_call 22; (with_reducible refine (fixOct vn _ vb B wb.heap.size wb (H.out.2.2.2.below (bb0.mono hB)) (by omega) (Nat.le_refl _) (by omega)).mono ?_); rintro e wc ⟨vc2, rfl, hownc, hbc⟩; have zc := hbc.size; have hSc := keepT hbc (by omega) hSb)
        | (refine step_append_from bt rfl (.tmp 40) (.tmp 43) rfl W0.drew.heap.size _ (hownb.stay hbc (Nat.le_refl _)) (by omega) _ (Src.ofRL (B := wc.heap.size) Try.underlying29 hownc.rl) (by simp [be32_length, be64_length]; omega) ?_; intro vd wd hownd hbd; have hSd := keepT hbd (by omega) hSc))
    have FIN := Lib.hid (And.intro (hownd.mono (show base ≤ W0.drew.heap.size by omega)) ((bb0.trans ((hbc.mono (by omega)).trans (hbd.mono (by omega)))).mono hb))
    clear howna hownb hownc hownd hba hbb hbc hbd hSa hSb hSc hSd bb0
    go_wp2
    go_ret
    have h := FIN.out.1
    have e : be64 off ++ be32 sz ++ be32 crc ++ [bb mg, bb att] ++ be64 tm ++ pOct (oct kn kb) ++ pOct (oct vn vb) = pOld true off sz crc mg att tm (oct kn kb) (oct vn vb) := by simp [pOld]
    rw [e] at h
    exact .mk h FIN.out.2
  · skip
    have hC := Lib.hid (keepT (n := w6.heap.size) ((Below.refl w6.heap.size w6).drew) (by omega) Z6.out.2.2)
    have Z8 := Lib.hid (And.intro Z6.out.1 Z6.out.2.1.drew)
    clear c0 c1 c2 c3 c4 c5 c6 c7 c8 c9
    have zd : w6.drew.heap.size = w6.heap.size := rfl
    go_wp2_with fail
    go_region_held3 (fun w' => w'.cell? ⟨w.heap.size, 0, none⟩ = some (.int .i64 off) ∧ w'.cell? ⟨w.heap.size, 1, none⟩ = some (.int .i32 sz) ∧ w'.cell? ⟨w.heap.size, 2, none⟩ = some (.int .i32 crc) ∧ w'.cell? ⟨w.heap.size, 3, none⟩ = some (.int .i8 mg) ∧ w'.cell? ⟨w.heap.size, 4, none⟩ = some (.int .i8 att) ∧ w'.cell? ⟨w.heap.size, 5, none⟩ = some (.int .i64 tm) ∧ w'.cell? ⟨w.heap.size, 6, none⟩ = some (.bool kn) ∧ w'.cell? ⟨w.heap.size, 7, none⟩ = some (.slice ka kb.length kc) ∧ w'.cell? ⟨w.heap.size, 8, none⟩ = some (.bool vn) ∧ w'.cell? ⟨w.heap.size, 9, none⟩ = some (.slice va vb.length vc))
      (first | exact hC.out | exact hSa | exact hSb | exact hSc | exact hSd)
      (first
        | (go_at_call 22; (with_reducible refine (fixOct kn _ kb B w6.drew.heap.size w6.drew (H.out.2.2.1.below (Z8.out.2.mono hB)) (by omega) (Nat.le_refl _) (by omega)).mono ?_); rintro e wa ⟨va, rfl, howna, hba⟩; have za := hba.size; have hSa := keepT hba (by omega) hC.out)
        | (refine step_append_from bt rfl (.tmp 36) (.tmp 39) rfl W0.drew.heap.size _ ((Z8.out.1.drew).stay hba (Nat.le_refl _)) (by omega) _ (Src.ofRL (B := wa.heap.size) Try.underlying29 howna.rl) (by simp [be32_length, be64_length]; omega) ?_; intro vB wb hownb hbb; have zb := hbb.size; have hSb := keepT hbb (by omega) hSa; have bb0 : Below w.heap.size w wb := Z8.out.2.trans ((hba.mono (by omega)).trans (hbb.mono (by omega))))
        | (go_at_call 22; (with_reducible refine (fixOct vn _ vb B wb.heap.size wb (H.out.2.2.2.below (bb0.mono hB)) (by omega) (Nat.le_refl _) (by omega)).mono ?_); rintro e wc ⟨vc2, rfl, hownc, hbc⟩; have zc := hbc.size; have hSc := keepT hbc (by omega) hSb)
        | (refine step_append_from bt rfl (.tmp 40) (.tmp 43) rfl W0.drew.heap.size _ (hownb.stay hbc (Nat.le_refl _)) (by omega) _ (Src.ofRL (B := wc.heap.size) Try.underlying29 hownc.rl) (by simp [be32_length, be64_length]; omega) ?_; intro vd wd hownd hbd; have hSd := keepT hbd (by omega) hSc))
    have FIN := Lib.hid (And.intro (hownd.mono (show base ≤ W0.drew.heap.size by omega)) ((bb0.trans ((hbc.mono (by omega)).trans (hbd.mono (by omega)))).mono hb))
    clear howna hownb hownc hownd hba hbb hbc hbd hSa hSb hSc hSd bb0
    go_wp2
    go_ret
    have h := FIN.out.1
    have e : be64 off ++ be32 sz ++ be32 crc ++ [bb mg, bb att] ++ pOct (oct kn kb) ++ pOct (oct vn vb) = pOld false off sz crc mg att tm (oct kn kb) (oct vn vb) := by simp [pOld]
    rw [e] at h
    exact .mk h FIN.out.2

end Go.Proofs.Ytfchajjllhndlaa.makeOld
