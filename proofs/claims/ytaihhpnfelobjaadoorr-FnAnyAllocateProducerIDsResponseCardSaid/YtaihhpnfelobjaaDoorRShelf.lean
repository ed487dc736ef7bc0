/-
  DERIVED: THE SHELF's CONTRACTS AT THIS DUMP, IN PLAIN WORDS (tools/lay-plain.mjs out of 'TrydShelf.lean', which tools/lay-shelf.mjs wrote): THE SAME DECLARATIONS UNDER THE SAME NAMES: 'import', 'namespace', 'open', 'def', 'theorem' AND NOTHING ELSE: no command of the shelf's: FOR A HAND-IN. Each laying: the table of numbers ('.._ren') and one theorem, a field a fact of the dump's own or the kernel's comparison; each contract: ONE APPLICATION.
-/
import Derived.Shelf.Small.Bits
import Derived.Shelf.Bin.BEUint16
import Derived.Shelf.Bin.BEUint32
import Derived.Shelf.Bin.BEUint64
import Derived.Shelf.GgSortFunc.Tiny
import Derived.Shelf.GgSortFunc.Whole
import Derived.Test.YtaihhpnfelobjaaDoorRProg
namespace Go.Proofs
open Go.Shelf
def Tryd.lays128_ren : Go.Shelf.Ren := ⟨fun | 128 => 154 | n => n, fun | 51 => 95 | 3 => 3 | 4 => 4 | 46 => 140 | 5 => 5 | 9 => 9 | n => n, fun | n => n⟩
theorem Tryd.lays128 : Go.Proofs.Lays.n128 Tryd.prog Tryd.lays128_ren := {
  mixed := by kernel_rfl
  f128 := Tryd.func154.trans (congrArg some (by kernel_rfl))
  t3 := Tryd.underlying3
  a3 := Tryd.isAgg3
  z3 := Tryd.sizeOf3
  v3 := Tryd.zeroValue3
  t4 := Tryd.underlying4
  a4 := Tryd.isAgg4
  z4 := Tryd.sizeOf4
  v4 := Tryd.zeroValue4
  t5 := Tryd.underlying5
  a5 := Tryd.isAgg5
  z5 := Tryd.sizeOf5
  v5 := Tryd.zeroValue5
  t9 := Tryd.underlying9
  a9 := Tryd.isAgg9
  z9 := Tryd.sizeOf9
  v9 := Tryd.zeroValue9
  t46 := Tryd.underlying140
  a46 := Tryd.isAgg140
  z46 := Tryd.sizeOf140
  v46 := Tryd.zeroValue140
  t51 := Tryd.underlying95
  a51 := Tryd.isAgg95
  z51 := Tryd.sizeOf95
  v51 := Tryd.zeroValue95 }
/-- bits.Len32: "Len32 returns the minimum number of bits required to represent x; the result is 0 for x == 0.": IT RETURNS 'Lib.bitLen x'; the world is as it was. ('h0', 'h1': x is a uint32.) (LAID: no walk: one application.) -/
theorem Tryd.bits_Len32 (x : Int) (w : World) (h0 : 0 ≤ x) (h1 : x ≤ 4294967295) :
    Calls Tryd.prog 154 #[.int .u32 x] w fun e w' => e = .returned (.int .i64 (Lib.bitLen x.toNat)) ∧ w' = w := Any.bits_Len32 Tryd.lays128 x w h0 h1
def Tryd.laysBin36_ren : Go.Shelf.Ren := ⟨fun | 36 => 150 | n => n, fun | 37 => 171 | 22 => 26 | 23 => 53 | 0 => 0 | 5 => 5 | 45 => 140 | n => n, fun | n => n⟩
theorem Tryd.laysBin36 : Go.Proofs.LaysBin.n36 Tryd.prog Tryd.laysBin36_ren := {
  mixed := by kernel_rfl
  f36 := Tryd.func150.trans (congrArg some (by kernel_rfl))
  t0 := Tryd.underlying0
  a0 := Tryd.isAgg0
  z0 := Tryd.sizeOf0
  v0 := Tryd.zeroValue0
  i0 := by kernel_rfl
  t5 := Tryd.underlying5
  a5 := Tryd.isAgg5
  z5 := Tryd.sizeOf5
  v5 := Tryd.zeroValue5
  i5 := by kernel_rfl
  t22 := Tryd.underlying26
  a22 := Tryd.isAgg26
  z22 := Tryd.sizeOf26
  v22 := Tryd.zeroValue26
  i22 := by kernel_rfl
  t23 := Tryd.underlying53
  a23 := Tryd.isAgg53
  z23 := Tryd.sizeOf53
  v23 := Tryd.zeroValue53
  i23 := by kernel_rfl
  t37 := Tryd.underlying171
  a37 := Tryd.isAgg171
  z37 := Tryd.sizeOf171
  v37 := Tryd.zeroValue171
  i37 := by kernel_rfl
  t45 := Tryd.underlying140
  a45 := Tryd.isAgg140
  z45 := Tryd.sizeOf140
  v45 := Tryd.zeroValue140
  i45 := by kernel_rfl }
open Go.RowKit in
/-- binary.BigEndian.Uint16: "Uint16 returns the uint16 representation of b[0:2].": THE NUMBER THAT THE FIRST 2 BYTES SPELL, the greatest byte first ('Lib.beNat'). Of what was there nothing has turned (the receiver, an empty struct, is laid in a new block without cells; the statement's order is drawn). (LAID: no walk: one application.) -/
theorem Tryd.binary_BE_Uint16 (g o n c : Nat) (b0 b1 : UInt8) (w : World) (hn : 2 ≤ n) (c0 : w.cell? ⟨g, o, none⟩ = some (.int .u8 b0.toNat)) (c1 : w.cell? ⟨g, o + 1, none⟩ = some (.int .u8 b1.toNat)) :
    Calls Tryd.prog 150 #[.agg #[], .slice (some ⟨g, o, none⟩) n c] w fun e w' => e = .returned (.int .u16 (Lib.beNat [b0, b1])) ∧ Below w.heap.size w w' := Any.binary_BE_Uint16 Tryd.laysBin36 g o n c b0 b1 w hn c0 c1
def Tryd.laysBin39_ren : Go.Shelf.Ren := ⟨fun | 39 => 157 | n => n, fun | 37 => 171 | 22 => 26 | 29 => 95 | 0 => 0 | 5 => 5 | 45 => 140 | n => n, fun | n => n⟩
theorem Tryd.laysBin39 : Go.Proofs.LaysBin.n39 Tryd.prog Tryd.laysBin39_ren := {
  mixed := by kernel_rfl
  f39 := Tryd.func157.trans (congrArg some (by kernel_rfl))
  t0 := Tryd.underlying0
  a0 := Tryd.isAgg0
  z0 := Tryd.sizeOf0
  v0 := Tryd.zeroValue0
  i0 := by kernel_rfl
  t5 := Tryd.underlying5
  a5 := Tryd.isAgg5
  z5 := Tryd.sizeOf5
  v5 := Tryd.zeroValue5
  i5 := by kernel_rfl
  t22 := Tryd.underlying26
  a22 := Tryd.isAgg26
  z22 := Tryd.sizeOf26
  v22 := Tryd.zeroValue26
  i22 := by kernel_rfl
  t29 := Tryd.underlying95
  a29 := Tryd.isAgg95
  z29 := Tryd.sizeOf95
  v29 := Tryd.zeroValue95
  i29 := by kernel_rfl
  t37 := Tryd.underlying171
  a37 := Tryd.isAgg171
  z37 := Tryd.sizeOf171
  v37 := Tryd.zeroValue171
  i37 := by kernel_rfl
  t45 := Tryd.underlying140
  a45 := Tryd.isAgg140
  z45 := Tryd.sizeOf140
  v45 := Tryd.zeroValue140
  i45 := by kernel_rfl }
open Go.RowKit in
/-- binary.BigEndian.Uint32: "Uint32 returns the uint32 representation of b[0:4].": THE NUMBER THAT THE FIRST 4 BYTES SPELL, the greatest byte first ('Lib.beNat'). Of what was there nothing has turned (the receiver, an empty struct, is laid in a new block without cells; the statement's order is drawn). (LAID: no walk: one application.) -/
theorem Tryd.binary_BE_Uint32 (g o n c : Nat) (b0 b1 b2 b3 : UInt8) (w : World) (hn : 4 ≤ n) (c0 : w.cell? ⟨g, o, none⟩ = some (.int .u8 b0.toNat)) (c1 : w.cell? ⟨g, o + 1, none⟩ = some (.int .u8 b1.toNat)) (c2 : w.cell? ⟨g, o + 2, none⟩ = some (.int .u8 b2.toNat)) (c3 : w.cell? ⟨g, o + 3, none⟩ = some (.int .u8 b3.toNat)) :
    Calls Tryd.prog 157 #[.agg #[], .slice (some ⟨g, o, none⟩) n c] w fun e w' => e = .returned (.int .u32 (Lib.beNat [b0, b1, b2, b3])) ∧ Below w.heap.size w w' := Any.binary_BE_Uint32 Tryd.laysBin39 g o n c b0 b1 b2 b3 w hn c0 c1 c2 c3
def Tryd.laysBin42_ren : Go.Shelf.Ren := ⟨fun | 42 => 175 | n => n, fun | 37 => 171 | 22 => 26 | 33 => 110 | 0 => 0 | 5 => 5 | 45 => 140 | n => n, fun | n => n⟩
theorem Tryd.laysBin42 : Go.Proofs.LaysBin.n42 Tryd.prog Tryd.laysBin42_ren := {
  mixed := by kernel_rfl
  f42 := Tryd.func175.trans (congrArg some (by kernel_rfl))
  t0 := Tryd.underlying0
  a0 := Tryd.isAgg0
  z0 := Tryd.sizeOf0
  v0 := Tryd.zeroValue0
  i0 := by kernel_rfl
  t5 := Tryd.underlying5
  a5 := Tryd.isAgg5
  z5 := Tryd.sizeOf5
  v5 := Tryd.zeroValue5
  i5 := by kernel_rfl
  t22 := Tryd.underlying26
  a22 := Tryd.isAgg26
  z22 := Tryd.sizeOf26
  v22 := Tryd.zeroValue26
  i22 := by kernel_rfl
  t33 := Tryd.underlying110
  a33 := Tryd.isAgg110
  z33 := Tryd.sizeOf110
  v33 := Tryd.zeroValue110
  i33 := by kernel_rfl
  t37 := Tryd.underlying171
  a37 := Tryd.isAgg171
  z37 := Tryd.sizeOf171
  v37 := Tryd.zeroValue171
  i37 := by kernel_rfl
  t45 := Tryd.underlying140
  a45 := Tryd.isAgg140
  z45 := Tryd.sizeOf140
  v45 := Tryd.zeroValue140
  i45 := by kernel_rfl }
open Go.RowKit in
/-- binary.BigEndian.Uint64: "Uint64 returns the uint64 representation of b[0:8].": THE NUMBER THAT THE FIRST 8 BYTES SPELL, the greatest byte first ('Lib.beNat'). Of what was there nothing has turned (the receiver, an empty struct, is laid in a new block without cells; the statement's order is drawn). (LAID: no walk: one application.) -/
theorem Tryd.binary_BE_Uint64 (g o n c : Nat) (b0 b1 b2 b3 b4 b5 b6 b7 : UInt8) (w : World) (hn : 8 ≤ n) (c0 : w.cell? ⟨g, o, none⟩ = some (.int .u8 b0.toNat)) (c1 : w.cell? ⟨g, o + 1, none⟩ = some (.int .u8 b1.toNat)) (c2 : w.cell? ⟨g, o + 2, none⟩ = some (.int .u8 b2.toNat)) (c3 : w.cell? ⟨g, o + 3, none⟩ = some (.int .u8 b3.toNat)) (c4 : w.cell? ⟨g, o + 4, none⟩ = some (.int .u8 b4.toNat)) (c5 : w.cell? ⟨g, o + 5, none⟩ = some (.int .u8 b5.toNat)) (c6 : w.cell? ⟨g, o + 6, none⟩ = some (.int .u8 b6.toNat)) (c7 : w.cell? ⟨g, o + 7, none⟩ = some (.int .u8 b7.toNat)) :
    Calls Tryd.prog 175 #[.agg #[], .slice (some ⟨g, o, none⟩) n c] w fun e w' => e = .returned (.int .u64 (Lib.beNat [b0, b1, b2, b3, b4, b5, b6, b7])) ∧ Below w.heap.size w w' := Any.binary_BE_Uint64 Tryd.laysBin42 g o n c b0 b1 b2 b3 b4 b5 b6 b7 w hn c0 c1 c2 c3 c4 c5 c6 c7
def Tryd.laysGg6_ren : Go.Shelf.Ren := ⟨fun | 6 => 155 | 10 => 170 | 11 => 171 | 12 => 172 | 13 => 173 | 14 => 174 | 24 => 154 | 25 => 194 | 26 => 195 | 27 => 196 | 28 => 197 | 29 => 198 | 30 => 199 | 31 => 200 | 32 => 201 | 33 => 202 | 34 => 207 | 35 => 208 | 36 => 209 | 37 => 210 | 38 => 211 | 39 => 212 | n => n, fun | 20 => 20 | 26 => 177 | 35 => 194 | 0 => 0 | 37 => 196 | 3 => 3 | 41 => 140 | 44 => 201 | 49 => 95 | 51 => 110 | 4 => 4 | 54 => 223 | 53 => 222 | 58 => 23 | 5 => 5 | 9 => 9 | 60 => 236 | 64 => 239 | 66 => 245 | 67 => 246 | 17 => 17 | 32 => 191 | 33 => 192 | 82 => 259 | 12 => 12 | 75 => 253 | 76 => 254 | 77 => 255 | 78 => 185 | 79 => 256 | 80 => 257 | n => n, fun | n => n⟩
theorem Tryd.laysGg6 : Go.Proofs.LaysGg.n6 Tryd.prog Tryd.laysGg6_ren := {
  mixed := by kernel_rfl
  f6 := Tryd.func155.trans (congrArg some (by kernel_rfl))
  f10 := Tryd.func170.trans (congrArg some (by kernel_rfl))
  f11 := Tryd.func171.trans (congrArg some (by kernel_rfl))
  f12 := Tryd.func172.trans (congrArg some (by kernel_rfl))
  f13 := Tryd.func173.trans (congrArg some (by kernel_rfl))
  f14 := Tryd.func174.trans (congrArg some (by kernel_rfl))
  f24 := Tryd.func154.trans (congrArg some (by kernel_rfl))
  f25 := Tryd.func194.trans (congrArg some (by kernel_rfl))
  f26 := Tryd.func195.trans (congrArg some (by kernel_rfl))
  f27 := Tryd.func196.trans (congrArg some (by kernel_rfl))
  f28 := Tryd.func197.trans (congrArg some (by kernel_rfl))
  f29 := Tryd.func198.trans (congrArg some (by kernel_rfl))
  f30 := Tryd.func199.trans (congrArg some (by kernel_rfl))
  f31 := Tryd.func200.trans (congrArg some (by kernel_rfl))
  f32 := Tryd.func201.trans (congrArg some (by kernel_rfl))
  f33 := Tryd.func202.trans (congrArg some (by kernel_rfl))
  f34 := Tryd.func207.trans (congrArg some (by kernel_rfl))
  f35 := Tryd.func208.trans (congrArg some (by kernel_rfl))
  f36 := Tryd.func209.trans (congrArg some (by kernel_rfl))
  f37 := Tryd.func210.trans (congrArg some (by kernel_rfl))
  f38 := Tryd.func211.trans (congrArg some (by kernel_rfl))
  f39 := Tryd.func212.trans (congrArg some (by kernel_rfl))
  t0 := Tryd.underlying0
  a0 := Tryd.isAgg0
  z0 := Tryd.sizeOf0
  v0 := Tryd.zeroValue0
  i0 := by kernel_rfl
  t3 := Tryd.underlying3
  a3 := Tryd.isAgg3
  z3 := Tryd.sizeOf3
  v3 := Tryd.zeroValue3
  i3 := by kernel_rfl
  t4 := Tryd.underlying4
  a4 := Tryd.isAgg4
  z4 := Tryd.sizeOf4
  v4 := Tryd.zeroValue4
  i4 := by kernel_rfl
  t5 := Tryd.underlying5
  a5 := Tryd.isAgg5
  z5 := Tryd.sizeOf5
  v5 := Tryd.zeroValue5
  i5 := by kernel_rfl
  t9 := Tryd.underlying9
  a9 := Tryd.isAgg9
  z9 := Tryd.sizeOf9
  v9 := Tryd.zeroValue9
  i9 := by kernel_rfl
  t12 := Tryd.underlying12
  a12 := Tryd.isAgg12
  z12 := Tryd.sizeOf12
  v12 := Tryd.zeroValue12
  i12 := by kernel_rfl
  t17 := Tryd.underlying17
  a17 := Tryd.isAgg17
  z17 := Tryd.sizeOf17
  v17 := Tryd.zeroValue17
  i17 := by kernel_rfl
  t20 := Tryd.underlying20
  a20 := Tryd.isAgg20
  z20 := Tryd.sizeOf20
  v20 := Tryd.zeroValue20
  i20 := by kernel_rfl
  t26 := Tryd.underlying177
  a26 := Tryd.isAgg177
  z26 := Tryd.sizeOf177
  v26 := Tryd.zeroValue177
  i26 := by kernel_rfl
  t32 := Tryd.underlying191
  a32 := Tryd.isAgg191
  z32 := Tryd.sizeOf191
  v32 := Tryd.zeroValue191
  i32 := by kernel_rfl
  t33 := Tryd.underlying192
  a33 := Tryd.isAgg192
  z33 := Tryd.sizeOf192
  v33 := Tryd.zeroValue192
  i33 := by kernel_rfl
  t35 := Tryd.underlying194
  a35 := Tryd.isAgg194
  z35 := Tryd.sizeOf194
  v35 := Tryd.zeroValue194
  i35 := by kernel_rfl
  t37 := Tryd.underlying196
  a37 := Tryd.isAgg196
  z37 := Tryd.sizeOf196
  v37 := Tryd.zeroValue196
  i37 := by kernel_rfl
  t41 := Tryd.underlying140
  a41 := Tryd.isAgg140
  z41 := Tryd.sizeOf140
  v41 := Tryd.zeroValue140
  i41 := by kernel_rfl
  t44 := Tryd.underlying201
  a44 := Tryd.isAgg201
  z44 := Tryd.sizeOf201
  v44 := Tryd.zeroValue201
  i44 := by kernel_rfl
  t49 := Tryd.underlying95
  a49 := Tryd.isAgg95
  z49 := Tryd.sizeOf95
  v49 := Tryd.zeroValue95
  i49 := by kernel_rfl
  t51 := Tryd.underlying110
  a51 := Tryd.isAgg110
  z51 := Tryd.sizeOf110
  v51 := Tryd.zeroValue110
  i51 := by kernel_rfl
  t53 := Tryd.underlying222
  a53 := Tryd.isAgg222
  z53 := Tryd.sizeOf222
  v53 := Tryd.zeroValue222
  i53 := by kernel_rfl
  t54 := Tryd.underlying223
  a54 := Tryd.isAgg223
  z54 := Tryd.sizeOf223
  v54 := Tryd.zeroValue223
  i54 := by kernel_rfl
  t58 := Tryd.underlying23
  a58 := Tryd.isAgg23
  z58 := Tryd.sizeOf23
  v58 := Tryd.zeroValue23
  i58 := by kernel_rfl
  t60 := Tryd.underlying236
  a60 := Tryd.isAgg236
  z60 := Tryd.sizeOf236
  v60 := Tryd.zeroValue236
  i60 := by kernel_rfl
  t64 := Tryd.underlying239
  a64 := Tryd.isAgg239
  z64 := Tryd.sizeOf239
  v64 := Tryd.zeroValue239
  i64 := by kernel_rfl
  t66 := Tryd.underlying245
  a66 := Tryd.isAgg245
  z66 := Tryd.sizeOf245
  v66 := Tryd.zeroValue245
  i66 := by kernel_rfl
  t67 := Tryd.underlying246
  a67 := Tryd.isAgg246
  z67 := Tryd.sizeOf246
  v67 := Tryd.zeroValue246
  i67 := by kernel_rfl
  t75 := Tryd.underlying253
  a75 := Tryd.isAgg253
  z75 := Tryd.sizeOf253
  v75 := Tryd.zeroValue253
  i75 := by kernel_rfl
  t76 := Tryd.underlying254
  a76 := Tryd.isAgg254
  z76 := Tryd.sizeOf254
  v76 := Tryd.zeroValue254
  i76 := by kernel_rfl
  t77 := Tryd.underlying255
  a77 := Tryd.isAgg255
  z77 := Tryd.sizeOf255
  v77 := Tryd.zeroValue255
  i77 := by kernel_rfl
  t78 := Tryd.underlying185
  a78 := Tryd.isAgg185
  z78 := Tryd.sizeOf185
  v78 := Tryd.zeroValue185
  i78 := by kernel_rfl
  t79 := Tryd.underlying256
  a79 := Tryd.isAgg256
  z79 := Tryd.sizeOf256
  v79 := Tryd.zeroValue256
  i79 := by kernel_rfl
  t80 := Tryd.underlying257
  a80 := Tryd.isAgg257
  z80 := Tryd.sizeOf257
  v80 := Tryd.zeroValue257
  i80 := by kernel_rfl
  t82 := Tryd.underlying259
  a82 := Tryd.isAgg259
  z82 := Tryd.sizeOf259
  v82 := Tryd.zeroValue259
  i82 := by kernel_rfl }
open Go.RowKit Go.Lib Go.Sort in
/-- **sort.Slice AT NO ELEMENT OR ONE.** (LAID: no walk: one application.) -/
theorem Tryd.sort_Slice_tiny (t e : TypeId) (i ie : TypeInfo) (hi : Tryd.prog.info? t = some i) (hd : i.desc = .slice e) (hpk : Tryd.prog.packed t = false) (hie : Tryd.prog.info? e = some ie) (ke : Nat) (hke : ∀ w, (Extern.Rtype.kind e).run Tryd.prog w = .ok ke w) (p : Option Addr) (n c : Nat) (h1 : n ≤ 1) (f : Nat) (hf : Tryd.prog.funcs.findIdx? (·.name == "internal/reflectlite" ++ ".Swapper$" ++ toString (swapperK n ie ke)) = some f) (lf : Fn) (la lb : Array Value) (w : World) :
    Calls Tryd.prog 155 #[.iface t (.slice p n c), .func lf la lb] w fun e w' => e = .returned (.tuple #[]) ∧ ∃ os, w' = grow w os := Any.sort_Slice_tiny Tryd.laysGg6 t e i ie hi hd hpk hie ke hke p n c h1 f hf lf la lb w
open Go.RowKit Go.Lib Go.Sort in
/-- **sort.Slice, IN THE DOCUMENTATION's OWN TERMS: A PERMUTATION OF WHAT THE ROW HELD, SORTED BY 'lt'.** Which of two equals comes first is left open. (LAID: no walk: one application.) -/
theorem Tryd.sort_Slice_sorted {α : Type} [Inhabited α] (t e : TypeId) (i ie : TypeInfo) (hi : Tryd.prog.info? t = some i) (hd : i.desc = .slice e) (hpk : Tryd.prog.packed t = false) (hie : Tryd.prog.info? e = some ie) (ke : Nat) (hke : ∀ w, (Extern.Rtype.kind e).run Tryd.prog w = .ok ke w) (hs1 : ie.size = 1) (hagg : ∀ w, (isAgg e).run Tryd.prog w = .ok false w) (enc : α → Value) (h1 : ∀ x, (enc x).oneCell' = true) (lt : α → α → Bool) (hO : SWO lt) (g : Nat) (lb : Array Value) (eg : ∀ args w, (callFunc g args).run Tryd.prog w = .ok (.enter g args) w) (blk off c : Nat) (d : Array α) (h2 : 2 ≤ d.size) (hsz : d.size < 4611686018427387904) (f : Nat) (hf : Tryd.prog.funcs.findIdx? (·.name == "internal/reflectlite" ++ ".Swapper$" ++ toString (swapperK d.size ie ke)) = some f) (gS : Bool) (hx : ∀ args W, (callFunc f args).run Tryd.prog W = ((Extern.ReflectliteSwapper.swap gS args).run Tryd.prog W).andThen fun v w' => .ok (.value v) w') (w : World) (hless : LessReads Tryd.prog g lb enc lt blk off d.size w) (hH : Holds enc w blk off d) (hblk : blk < w.heap.size) :
    Calls Tryd.prog 155 #[.iface t (.slice (some ⟨blk, off, none⟩) d.size c), .func (.func g) #[] lb] w fun e w' =>
      e = .returned (.tuple #[]) ∧ ∃ d' n os, PermIn 0 d.size d d' ∧ SortedIn lt 0 d.size d' ∧ w' = grow (putRow enc (Sort.ahead w n) blk off d') os := Any.sort_Slice_sorted Tryd.laysGg6 t e i ie hi hd hpk hie ke hke hs1 hagg enc h1 lt hO g lb eg blk off c d h2 hsz f hf gS hx w hless hH hblk
end Go.Proofs
