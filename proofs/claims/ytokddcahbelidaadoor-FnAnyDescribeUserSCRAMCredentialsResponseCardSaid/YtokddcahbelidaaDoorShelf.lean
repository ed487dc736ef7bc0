/-
  DERIVED: THE SHELF's CONTRACTS AT THIS DUMP, IN PLAIN WORDS (tools/lay-plain.mjs out of 'TrydShelf.lean', which tools/lay-shelf.mjs wrote): THE SAME DECLARATIONS UNDER THE SAME NAMES: 'import', 'namespace', 'open', 'def', 'theorem' AND NOTHING ELSE: no command of the shelf's: FOR A HAND-IN. Each laying: the table of numbers ('.._ren') and one theorem, a field a fact of the dump's own or the kernel's comparison; each contract: ONE APPLICATION.
-/
import Derived.Shelf.Small.Bits
import Derived.Shelf.Bin.BEUint16
import Derived.Shelf.Bin.BEUint32
import Derived.Shelf.Bin.BEUint64
import Derived.Shelf.GgSortFunc.Tiny
import Derived.Shelf.GgSortFunc.Whole
import Derived.Test.YtokddcahbelidaaDoorProg
namespace Go.Proofs
open Go.Shelf
def Tryd.lays128_ren : Go.Shelf.Ren := ⟨fun | 128 => 119 | n => n, fun | 51 => 70 | 3 => 3 | 4 => 4 | 46 => 142 | 5 => 5 | 9 => 9 | n => n, fun | n => n⟩
theorem Tryd.lays128 : Go.Proofs.Lays.n128 Tryd.prog Tryd.lays128_ren := {
  mixed := by kernel_rfl
  f128 := Tryd.func119.trans (congrArg some (by kernel_rfl))
  t3 := Tryd.underlying3
  a3 := Tryd.isAgg3
  z3 := Tryd.sizeOf3
  v3 := Tryd.zeroValue3
  t4 := Tryd.underlying4
  a4 := Tryd.isAgg4
  z4 := Tryd.sizeOf4
  v4 := Tryd.zeroValue4
  t5 := Tryd.underlying5
  a5 := Tryd.isAgg5
  z5 := Tryd.sizeOf5
  v5 := Tryd.zeroValue5
  t9 := Tryd.underlying9
  a9 := Tryd.isAgg9
  z9 := Tryd.sizeOf9
  v9 := Tryd.zeroValue9
  t46 := Tryd.underlying142
  a46 := Tryd.isAgg142
  z46 := Tryd.sizeOf142
  v46 := Tryd.zeroValue142
  t51 := Tryd.underlying70
  a51 := Tryd.isAgg70
  z51 := Tryd.sizeOf70
  v51 := Tryd.zeroValue70 }
/-- bits.Len32: "Len32 returns the minimum number of bits required to represent x; the result is 0 for x == 0.": IT RETURNS 'Lib.bitLen x'; the world is as it was. ('h0', 'h1': x is a uint32.) (LAID: no walk: one application.) -/
theorem Tryd.bits_Len32 (x : Int) (w : World) (h0 : 0 ≤ x) (h1 : x ≤ 4294967295) :
    Calls Tryd.prog 119 #[.int .u32 x] w fun e w' => e = .returned (.int .i64 (Lib.bitLen x.toNat)) ∧ w' = w := Any.bits_Len32 Tryd.lays128 x w h0 h1
def Tryd.laysBin36_ren : Go.Shelf.Ren := ⟨fun | 36 => 118 | n => n, fun | 37 => 155 | 22 => 22 | 23 => 140 | 0 => 0 | 5 => 5 | 45 => 142 | n => n, fun | n => n⟩
theorem Tryd.laysBin36 : Go.Proofs.LaysBin.n36 Tryd.prog Tryd.laysBin36_ren := {
  mixed := by kernel_rfl
  f36 := Tryd.func118.trans (congrArg some (by kernel_rfl))
  t0 := Tryd.underlying0
  a0 := Tryd.isAgg0
  z0 := Tryd.sizeOf0
  v0 := Tryd.zeroValue0
  i0 := by kernel_rfl
  t5 := Tryd.underlying5
  a5 := Tryd.isAgg5
  z5 := Tryd.sizeOf5
  v5 := Tryd.zeroValue5
  i5 := by kernel_rfl
  t22 := Tryd.underlying22
  a22 := Tryd.isAgg22
  z22 := Tryd.sizeOf22
  v22 := Tryd.zeroValue22
  i22 := by kernel_rfl
  t23 := Tryd.underlying140
  a23 := Tryd.isAgg140
  z23 := Tryd.sizeOf140
  v23 := Tryd.zeroValue140
  i23 := by kernel_rfl
  t37 := Tryd.underlying155
  a37 := Tryd.isAgg155
  z37 := Tryd.sizeOf155
  v37 := Tryd.zeroValue155
  i37 := by kernel_rfl
  t45 := Tryd.underlying142
  a45 := Tryd.isAgg142
  z45 := Tryd.sizeOf142
  v45 := Tryd.zeroValue142
  i45 := by kernel_rfl }
open Go.RowKit in
/-- binary.BigEndian.Uint16: "Uint16 returns the uint16 representation of b[0:2].": THE NUMBER THAT THE FIRST 2 BYTES SPELL, the greatest byte first ('Lib.beNat'). Of what was there nothing has turned (the receiver, an empty struct, is laid in a new block without cells; the statement's order is drawn). (LAID: no walk: one application.) -/
theorem Tryd.binary_BE_Uint16 (g o n c : Nat) (b0 b1 : UInt8) (w : World) (hn : 2 ≤ n) (c0 : w.cell? ⟨g, o, none⟩ = some (.int .u8 b0.toNat)) (c1 : w.cell? ⟨g, o + 1, none⟩ = some (.int .u8 b1.toNat)) :
    Calls Tryd.prog 118 #[.agg #[], .slice (some ⟨g, o, none⟩) n c] w fun e w' => e = .returned (.int .u16 (Lib.beNat [b0, b1])) ∧ Below w.heap.size w w' := Any.binary_BE_Uint16 Tryd.laysBin36 g o n c b0 b1 w hn c0 c1
def Tryd.laysBin39_ren : Go.Shelf.Ren := ⟨fun | 39 => 117 | n => n, fun | 37 => 155 | 22 => 22 | 29 => 70 | 0 => 0 | 5 => 5 | 45 => 142 | n => n, fun | n => n⟩
theorem Tryd.laysBin39 : Go.Proofs.LaysBin.n39 Tryd.prog Tryd.laysBin39_ren := {
  mixed := by kernel_rfl
  f39 := Tryd.func117.trans (congrArg some (by kernel_rfl))
  t0 := Tryd.underlying0
  a0 := Tryd.isAgg0
  z0 := Tryd.sizeOf0
  v0 := Tryd.zeroValue0
  i0 := by kernel_rfl
  t5 := Tryd.underlying5
  a5 := Tryd.isAgg5
  z5 := Tryd.sizeOf5
  v5 := Tryd.zeroValue5
  i5 := by kernel_rfl
  t22 := Tryd.underlying22
  a22 := Tryd.isAgg22
  z22 := Tryd.sizeOf22
  v22 := Tryd.zeroValue22
  i22 := by kernel_rfl
  t29 := Tryd.underlying70
  a29 := Tryd.isAgg70
  z29 := Tryd.sizeOf70
  v29 := Tryd.zeroValue70
  i29 := by kernel_rfl
  t37 := Tryd.underlying155
  a37 := Tryd.isAgg155
  z37 := Tryd.sizeOf155
  v37 := Tryd.zeroValue155
  i37 := by kernel_rfl
  t45 := Tryd.underlying142
  a45 := Tryd.isAgg142
  z45 := Tryd.sizeOf142
  v45 := Tryd.zeroValue142
  i45 := by kernel_rfl }
open Go.RowKit in
/-- binary.BigEndian.Uint32: "Uint32 returns the uint32 representation of b[0:4].": THE NUMBER THAT THE FIRST 4 BYTES SPELL, the greatest byte first ('Lib.beNat'). Of what was there nothing has turned (the receiver, an empty struct, is laid in a new block without cells; the statement's order is drawn). (LAID: no walk: one application.) -/
theorem Tryd.binary_BE_Uint32 (g o n c : Nat) (b0 b1 b2 b3 : UInt8) (w : World) (hn : 4 ≤ n) (c0 : w.cell? ⟨g, o, none⟩ = some (.int .u8 b0.toNat)) (c1 : w.cell? ⟨g, o + 1, none⟩ = some (.int .u8 b1.toNat)) (c2 : w.cell? ⟨g, o + 2, none⟩ = some (.int .u8 b2.toNat)) (c3 : w.cell? ⟨g, o + 3, none⟩ = some (.int .u8 b3.toNat)) :
    Calls Tryd.prog 117 #[.agg #[], .slice (some ⟨g, o, none⟩) n c] w fun e w' => e = .returned (.int .u32 (Lib.beNat [b0, b1, b2, b3])) ∧ Below w.heap.size w w' := Any.binary_BE_Uint32 Tryd.laysBin39 g o n c b0 b1 b2 b3 w hn c0 c1 c2 c3
def Tryd.laysBin42_ren : Go.Shelf.Ren := ⟨fun | 42 => 123 | n => n, fun | 37 => 155 | 22 => 22 | 33 => 138 | 0 => 0 | 5 => 5 | 45 => 142 | n => n, fun | n => n⟩
theorem Tryd.laysBin42 : Go.Proofs.LaysBin.n42 Tryd.prog Tryd.laysBin42_ren := {
  mixed := by kernel_rfl
  f42 := Tryd.func123.trans (congrArg some (by kernel_rfl))
  t0 := Tryd.underlying0
  a0 := Tryd.isAgg0
  z0 := Tryd.sizeOf0
  v0 := Tryd.zeroValue0
  i0 := by kernel_rfl
  t5 := Tryd.underlying5
  a5 := Tryd.isAgg5
  z5 := Tryd.sizeOf5
  v5 := Tryd.zeroValue5
  i5 := by kernel_rfl
  t22 := Tryd.underlying22
  a22 := Tryd.isAgg22
  z22 := Tryd.sizeOf22
  v22 := Tryd.zeroValue22
  i22 := by kernel_rfl
  t33 := Tryd.underlying138
  a33 := Tryd.isAgg138
  z33 := Tryd.sizeOf138
  v33 := Tryd.zeroValue138
  i33 := by kernel_rfl
  t37 := Tryd.underlying155
  a37 := Tryd.isAgg155
  z37 := Tryd.sizeOf155
  v37 := Tryd.zeroValue155
  i37 := by kernel_rfl
  t45 := Tryd.underlying142
  a45 := Tryd.isAgg142
  z45 := Tryd.sizeOf142
  v45 := Tryd.zeroValue142
  i45 := by kernel_rfl }
open Go.RowKit in
/-- binary.BigEndian.Uint64: "Uint64 returns the uint64 representation of b[0:8].": THE NUMBER THAT THE FIRST 8 BYTES SPELL, the greatest byte first ('Lib.beNat'). Of what was there nothing has turned (the receiver, an empty struct, is laid in a new block without cells; the statement's order is drawn). (LAID: no walk: one application.) -/
theorem Tryd.binary_BE_Uint64 (g o n c : Nat) (b0 b1 b2 b3 b4 b5 b6 b7 : UInt8) (w : World) (hn : 8 ≤ n) (c0 : w.cell? ⟨g, o, none⟩ = some (.int .u8 b0.toNat)) (c1 : w.cell? ⟨g, o + 1, none⟩ = some (.int .u8 b1.toNat)) (c2 : w.cell? ⟨g, o + 2, none⟩ = some (.int .u8 b2.toNat)) (c3 : w.cell? ⟨g, o + 3, none⟩ = some (.int .u8 b3.toNat)) (c4 : w.cell? ⟨g, o + 4, none⟩ = some (.int .u8 b4.toNat)) (c5 : w.cell? ⟨g, o + 5, none⟩ = some (.int .u8 b5.toNat)) (c6 : w.cell? ⟨g, o + 6, none⟩ = some (.int .u8 b6.toNat)) (c7 : w.cell? ⟨g, o + 7, none⟩ = some (.int .u8 b7.toNat)) :
    Calls Tryd.prog 123 #[.agg #[], .slice (some ⟨g, o, none⟩) n c] w fun e w' => e = .returned (.int .u64 (Lib.beNat [b0, b1, b2, b3, b4, b5, b6, b7])) ∧ Below w.heap.size w w' := Any.binary_BE_Uint64 Tryd.laysBin42 g o n c b0 b1 b2 b3 b4 b5 b6 b7 w hn c0 c1 c2 c3 c4 c5 c6 c7
def Tryd.laysGg6_ren : Go.Shelf.Ren := ⟨fun | 6 => 120 | 10 => 124 | 11 => 125 | 12 => 126 | 13 => 127 | 14 => 128 | 24 => 119 | 25 => 138 | 26 => 139 | 27 => 140 | 28 => 141 | 29 => 142 | 30 => 143 | 31 => 144 | 32 => 145 | 33 => 146 | 34 => 147 | 35 => 148 | 36 => 149 | 37 => 150 | 38 => 151 | 39 => 152 | n => n, fun | 20 => 20 | 26 => 159 | 35 => 166 | 0 => 0 | 37 => 168 | 3 => 3 | 41 => 142 | 44 => 173 | 49 => 70 | 51 => 138 | 4 => 4 | 54 => 180 | 53 => 179 | 58 => 184 | 5 => 5 | 9 => 9 | 60 => 186 | 64 => 189 | 66 => 191 | 67 => 192 | 17 => 17 | 32 => 163 | 33 => 164 | 82 => 207 | 12 => 12 | 75 => 200 | 76 => 201 | 77 => 202 | 78 => 203 | 79 => 204 | 80 => 205 | n => n, fun | n => n⟩
theorem Tryd.laysGg6 : Go.Proofs.LaysGg.n6 Tryd.prog Tryd.laysGg6_ren := {
  mixed := by kernel_rfl
  f6 := Tryd.func120.trans (congrArg some (by kernel_rfl))
  f10 := Tryd.func124.trans (congrArg some (by kernel_rfl))
  f11 := Tryd.func125.trans (congrArg some (by kernel_rfl))
  f12 := Tryd.func126.trans (congrArg some (by kernel_rfl))
  f13 := Tryd.func127.trans (congrArg some (by kernel_rfl))
  f14 := Tryd.func128.trans (congrArg some (by kernel_rfl))
  f24 := Tryd.func119.trans (congrArg some (by kernel_rfl))
  f25 := Tryd.func138.trans (congrArg some (by kernel_rfl))
  f26 := Tryd.func139.trans (congrArg some (by kernel_rfl))
  f27 := Tryd.func140.trans (congrArg some (by kernel_rfl))
  f28 := Tryd.func141.trans (congrArg some (by kernel_rfl))
  f29 := Tryd.func142.trans (congrArg some (by kernel_rfl))
  f30 := Tryd.func143.trans (congrArg some (by kernel_rfl))
  f31 := Tryd.func144.trans (congrArg some (by kernel_rfl))
  f32 := Tryd.func145.trans (congrArg some (by kernel_rfl))
  f33 := Tryd.func146.trans (congrArg some (by kernel_rfl))
  f34 := Tryd.func147.trans (congrArg some (by kernel_rfl))
  f35 := Tryd.func148.trans (congrArg some (by kernel_rfl))
  f36 := Tryd.func149.trans (congrArg some (by kernel_rfl))
  f37 := Tryd.func150.trans (congrArg some (by kernel_rfl))
  f38 := Tryd.func151.trans (congrArg some (by kernel_rfl))
  f39 := Tryd.func152.trans (congrArg some (by kernel_rfl))
  t0 := Tryd.underlying0
  a0 := Tryd.isAgg0
  z0 := Tryd.sizeOf0
  v0 := Tryd.zeroValue0
  i0 := by kernel_rfl
  t3 := Tryd.underlying3
  a3 := Tryd.isAgg3
  z3 := Tryd.sizeOf3
  v3 := Tryd.zeroValue3
  i3 := by kernel_rfl
  t4 := Tryd.underlying4
  a4 := Tryd.isAgg4
  z4 := Tryd.sizeOf4
  v4 := Tryd.zeroValue4
  i4 := by kernel_rfl
  t5 := Tryd.underlying5
  a5 := Tryd.isAgg5
  z5 := Tryd.sizeOf5
  v5 := Tryd.zeroValue5
  i5 := by kernel_rfl
  t9 := Tryd.underlying9
  a9 := Tryd.isAgg9
  z9 := Tryd.sizeOf9
  v9 := Tryd.zeroValue9
  i9 := by kernel_rfl
  t12 := Tryd.underlying12
  a12 := Tryd.isAgg12
  z12 := Tryd.sizeOf12
  v12 := Tryd.zeroValue12
  i12 := by kernel_rfl
  t17 := Tryd.underlying17
  a17 := Tryd.isAgg17
  z17 := Tryd.sizeOf17
  v17 := Tryd.zeroValue17
  i17 := by kernel_rfl
  t20 := Tryd.underlying20
  a20 := Tryd.isAgg20
  z20 := Tryd.sizeOf20
  v20 := Tryd.zeroValue20
  i20 := by kernel_rfl
  t26 := Tryd.underlying159
  a26 := Tryd.isAgg159
  z26 := Tryd.sizeOf159
  v26 := Tryd.zeroValue159
  i26 := by kernel_rfl
  t32 := Tryd.underlying163
  a32 := Tryd.isAgg163
  z32 := Tryd.sizeOf163
  v32 := Tryd.zeroValue163
  i32 := by kernel_rfl
  t33 := Tryd.underlying164
  a33 := Tryd.isAgg164
  z33 := Tryd.sizeOf164
  v33 := Tryd.zeroValue164
  i33 := by kernel_rfl
  t35 := Tryd.underlying166
  a35 := Tryd.isAgg166
  z35 := Tryd.sizeOf166
  v35 := Tryd.zeroValue166
  i35 := by kernel_rfl
  t37 := Tryd.underlying168
  a37 := Tryd.isAgg168
  z37 := Tryd.sizeOf168
  v37 := Tryd.zeroValue168
  i37 := by kernel_rfl
  t41 := Tryd.underlying142
  a41 := Tryd.isAgg142
  z41 := Tryd.sizeOf142
  v41 := Tryd.zeroValue142
  i41 := by kernel_rfl
  t44 := Tryd.underlying173
  a44 := Tryd.isAgg173
  z44 := Tryd.sizeOf173
  v44 := Tryd.zeroValue173
  i44 := by kernel_rfl
  t49 := Tryd.underlying70
  a49 := Tryd.isAgg70
  z49 := Tryd.sizeOf70
  v49 := Tryd.zeroValue70
  i49 := by kernel_rfl
  t51 := Tryd.underlying138
  a51 := Tryd.isAgg138
  z51 := Tryd.sizeOf138
  v51 := Tryd.zeroValue138
  i51 := by kernel_rfl
  t53 := Tryd.underlying179
  a53 := Tryd.isAgg179
  z53 := Tryd.sizeOf179
  v53 := Tryd.zeroValue179
  i53 := by kernel_rfl
  t54 := Tryd.underlying180
  a54 := Tryd.isAgg180
  z54 := Tryd.sizeOf180
  v54 := Tryd.zeroValue180
  i54 := by kernel_rfl
  t58 := Tryd.underlying184
  a58 := Tryd.isAgg184
  z58 := Tryd.sizeOf184
  v58 := Tryd.zeroValue184
  i58 := by kernel_rfl
  t60 := Tryd.underlying186
  a60 := Tryd.isAgg186
  z60 := Tryd.sizeOf186
  v60 := Tryd.zeroValue186
  i60 := by kernel_rfl
  t64 := Tryd.underlying189
  a64 := Tryd.isAgg189
  z64 := Tryd.sizeOf189
  v64 := Tryd.zeroValue189
  i64 := by kernel_rfl
  t66 := Tryd.underlying191
  a66 := Tryd.isAgg191
  z66 := Tryd.sizeOf191
  v66 := Tryd.zeroValue191
  i66 := by kernel_rfl
  t67 := Tryd.underlying192
  a67 := Tryd.isAgg192
  z67 := Tryd.sizeOf192
  v67 := Tryd.zeroValue192
  i67 := by kernel_rfl
  t75 := Tryd.underlying200
  a75 := Tryd.isAgg200
  z75 := Tryd.sizeOf200
  v75 := Tryd.zeroValue200
  i75 := by kernel_rfl
  t76 := Tryd.underlying201
  a76 := Tryd.isAgg201
  z76 := Tryd.sizeOf201
  v76 := Tryd.zeroValue201
  i76 := by kernel_rfl
  t77 := Tryd.underlying202
  a77 := Tryd.isAgg202
  z77 := Tryd.sizeOf202
  v77 := Tryd.zeroValue202
  i77 := by kernel_rfl
  t78 := Tryd.underlying203
  a78 := Tryd.isAgg203
  z78 := Tryd.sizeOf203
  v78 := Tryd.zeroValue203
  i78 := by kernel_rfl
  t79 := Tryd.underlying204
  a79 := Tryd.isAgg204
  z79 := Tryd.sizeOf204
  v79 := Tryd.zeroValue204
  i79 := by kernel_rfl
  t80 := Tryd.underlying205
  a80 := Tryd.isAgg205
  z80 := Tryd.sizeOf205
  v80 := Tryd.zeroValue205
  i80 := by kernel_rfl
  t82 := Tryd.underlying207
  a82 := Tryd.isAgg207
  z82 := Tryd.sizeOf207
  v82 := Tryd.zeroValue207
  i82 := by kernel_rfl }
open Go.RowKit Go.Lib Go.Sort in
/-- **sort.Slice AT NO ELEMENT OR ONE.** (LAID: no walk: one application.) -/
theorem Tryd.sort_Slice_tiny (t e : TypeId) (i ie : TypeInfo) (hi : Tryd.prog.info? t = some i) (hd : i.desc = .slice e) (hpk : Tryd.prog.packed t = false) (hie : Tryd.prog.info? e = some ie) (ke : Nat) (hke : ∀ w, (Extern.Rtype.kind e).run Tryd.prog w = .ok ke w) (p : Option Addr) (n c : Nat) (h1 : n ≤ 1) (f : Nat) (hf : Tryd.prog.funcs.findIdx? (·.name == "internal/reflectlite" ++ ".Swapper$" ++ toString (swapperK n ie ke)) = some f) (lf : Fn) (la lb : Array Value) (w : World) :
    Calls Tryd.prog 120 #[.iface t (.slice p n c), .func lf la lb] w fun e w' => e = .returned (.tuple #[]) ∧ ∃ os, w' = grow w os := Any.sort_Slice_tiny Tryd.laysGg6 t e i ie hi hd hpk hie ke hke p n c h1 f hf lf la lb w
open Go.RowKit Go.Lib Go.Sort in
/-- **sort.Slice, IN THE DOCUMENTATION's OWN TERMS: A PERMUTATION OF WHAT THE ROW HELD, SORTED BY 'lt'.** Which of two equals comes first is left open. (LAID: no walk: one application.) -/
theorem Tryd.sort_Slice_sorted {α : Type} [Inhabited α] (t e : TypeId) (i ie : TypeInfo) (hi : Tryd.prog.info? t = some i) (hd : i.desc = .slice e) (hpk : Tryd.prog.packed t = false) (hie : Tryd.prog.info? e = some ie) (ke : Nat) (hke : ∀ w, (Extern.Rtype.kind e).run Tryd.prog w = .ok ke w) (hs1 : ie.size = 1) (hagg : ∀ w, (isAgg e).run Tryd.prog w = .ok false w) (enc : α → Value) (h1 : ∀ x, (enc x).oneCell' = true) (lt : α → α → Bool) (hO : SWO lt) (g : Nat) (lb : Array Value) (eg : ∀ args w, (callFunc g args).run Tryd.prog w = .ok (.enter g args) w) (blk off c : Nat) (d : Array α) (h2 : 2 ≤ d.size) (hsz : d.size < 4611686018427387904) (f : Nat) (hf : Tryd.prog.funcs.findIdx? (·.name == "internal/reflectlite" ++ ".Swapper$" ++ toString (swapperK d.size ie ke)) = some f) (gS : Bool) (hx : ∀ args W, (callFunc f args).run Tryd.prog W = ((Extern.ReflectliteSwapper.swap gS args).run Tryd.prog W).andThen fun v w' => .ok (.value v) w') (w : World) (hless : LessReads Tryd.prog g lb enc lt blk off d.size w) (hH : Holds enc w blk off d) (hblk : blk < w.heap.size) :
    Calls Tryd.prog 120 #[.iface t (.slice (some ⟨blk, off, none⟩) d.size c), .func (.func g) #[] lb] w fun e w' =>
      e = .returned (.tuple #[]) ∧ ∃ d' n os, PermIn 0 d.size d d' ∧ SortedIn lt 0 d.size d' ∧ w' = grow (putRow enc (Sort.ahead w n) blk off d') os := Any.sort_Slice_sorted Tryd.laysGg6 t e i ie hi hd hpk hie ke hke hs1 hagg enc h1 lt hO g lb eg blk off c d h2 hsz f hf gS hx w hless hH hblk
end Go.Proofs
