/-
  DERIVED: THE SHELF's CONTRACTS AT THIS DUMP, IN PLAIN WORDS (tools/lay-plain.mjs out of 'TrydShelf.lean', which tools/lay-shelf.mjs wrote): THE SAME DECLARATIONS UNDER THE SAME NAMES: 'import', 'namespace', 'open', 'def', 'theorem' AND NOTHING ELSE: no command of the shelf's: FOR A HAND-IN. Each laying: the table of numbers ('.._ren') and one theorem, a field a fact of the dump's own or the kernel's comparison; each contract: ONE APPLICATION.
-/
import Derived.Shelf.Small.Bits
import Derived.Shelf.Bin.BEUint16
import Derived.Shelf.Bin.BEUint32
import Derived.Shelf.Bin.BEUint64
import Derived.Shelf.GgSortFunc.Tiny
import Derived.Shelf.GgSortFunc.Whole
import Derived.Test.YtdkonfgjmgeljaaDoorProg
namespace Go.Proofs
open Go.Shelf
def Tryd.lays128_ren : Go.Shelf.Ren := ⟨fun | 128 => 106 | n => n, fun | 51 => 61 | 3 => 3 | 4 => 4 | 46 => 112 | 5 => 5 | 9 => 9 | n => n, fun | n => n⟩
theorem Tryd.lays128 : Go.Proofs.Lays.n128 Tryd.prog Tryd.lays128_ren := {
  mixed := by kernel_rfl
  f128 := Tryd.func106.trans (congrArg some (by kernel_rfl))
  t3 := Tryd.underlying3
  a3 := Tryd.isAgg3
  z3 := Tryd.sizeOf3
  v3 := Tryd.zeroValue3
  t4 := Tryd.underlying4
  a4 := Tryd.isAgg4
  z4 := Tryd.sizeOf4
  v4 := Tryd.zeroValue4
  t5 := Tryd.underlying5
  a5 := Tryd.isAgg5
  z5 := Tryd.sizeOf5
  v5 := Tryd.zeroValue5
  t9 := Tryd.underlying9
  a9 := Tryd.isAgg9
  z9 := Tryd.sizeOf9
  v9 := Tryd.zeroValue9
  t46 := Tryd.underlying112
  a46 := Tryd.isAgg112
  z46 := Tryd.sizeOf112
  v46 := Tryd.zeroValue112
  t51 := Tryd.underlying61
  a51 := Tryd.isAgg61
  z51 := Tryd.sizeOf61
  v51 := Tryd.zeroValue61 }
/-- bits.Len32: "Len32 returns the minimum number of bits required to represent x; the result is 0 for x == 0.": IT RETURNS 'Lib.bitLen x'; the world is as it was. ('h0', 'h1': x is a uint32.) (LAID: no walk: one application.) -/
theorem Tryd.bits_Len32 (x : Int) (w : World) (h0 : 0 ≤ x) (h1 : x ≤ 4294967295) :
    Calls Tryd.prog 106 #[.int .u32 x] w fun e w' => e = .returned (.int .i64 (Lib.bitLen x.toNat)) ∧ w' = w := Any.bits_Len32 Tryd.lays128 x w h0 h1
def Tryd.laysBin36_ren : Go.Shelf.Ren := ⟨fun | 36 => 100 | n => n, fun | 37 => 122 | 22 => 22 | 23 => 110 | 0 => 0 | 5 => 5 | 45 => 112 | n => n, fun | n => n⟩
theorem Tryd.laysBin36 : Go.Proofs.LaysBin.n36 Tryd.prog Tryd.laysBin36_ren := {
  mixed := by kernel_rfl
  f36 := Tryd.func100.trans (congrArg some (by kernel_rfl))
  t0 := Tryd.underlying0
  a0 := Tryd.isAgg0
  z0 := Tryd.sizeOf0
  v0 := Tryd.zeroValue0
  i0 := by kernel_rfl
  t5 := Tryd.underlying5
  a5 := Tryd.isAgg5
  z5 := Tryd.sizeOf5
  v5 := Tryd.zeroValue5
  i5 := by kernel_rfl
  t22 := Tryd.underlying22
  a22 := Tryd.isAgg22
  z22 := Tryd.sizeOf22
  v22 := Tryd.zeroValue22
  i22 := by kernel_rfl
  t23 := Tryd.underlying110
  a23 := Tryd.isAgg110
  z23 := Tryd.sizeOf110
  v23 := Tryd.zeroValue110
  i23 := by kernel_rfl
  t37 := Tryd.underlying122
  a37 := Tryd.isAgg122
  z37 := Tryd.sizeOf122
  v37 := Tryd.zeroValue122
  i37 := by kernel_rfl
  t45 := Tryd.underlying112
  a45 := Tryd.isAgg112
  z45 := Tryd.sizeOf112
  v45 := Tryd.zeroValue112
  i45 := by kernel_rfl }
open Go.RowKit in
/-- binary.BigEndian.Uint16: "Uint16 returns the uint16 representation of b[0:2].": THE NUMBER THAT THE FIRST 2 BYTES SPELL, the greatest byte first ('Lib.beNat'). Of what was there nothing has turned (the receiver, an empty struct, is laid in a new block without cells; the statement's order is drawn). (LAID: no walk: one application.) -/
theorem Tryd.binary_BE_Uint16 (g o n c : Nat) (b0 b1 : UInt8) (w : World) (hn : 2 ≤ n) (c0 : w.cell? ⟨g, o, none⟩ = some (.int .u8 b0.toNat)) (c1 : w.cell? ⟨g, o + 1, none⟩ = some (.int .u8 b1.toNat)) :
    Calls Tryd.prog 100 #[.agg #[], .slice (some ⟨g, o, none⟩) n c] w fun e w' => e = .returned (.int .u16 (Lib.beNat [b0, b1])) ∧ Below w.heap.size w w' := Any.binary_BE_Uint16 Tryd.laysBin36 g o n c b0 b1 w hn c0 c1
def Tryd.laysBin39_ren : Go.Shelf.Ren := ⟨fun | 39 => 104 | n => n, fun | 37 => 122 | 22 => 22 | 29 => 61 | 0 => 0 | 5 => 5 | 45 => 112 | n => n, fun | n => n⟩
theorem Tryd.laysBin39 : Go.Proofs.LaysBin.n39 Tryd.prog Tryd.laysBin39_ren := {
  mixed := by kernel_rfl
  f39 := Tryd.func104.trans (congrArg some (by kernel_rfl))
  t0 := Tryd.underlying0
  a0 := Tryd.isAgg0
  z0 := Tryd.sizeOf0
  v0 := Tryd.zeroValue0
  i0 := by kernel_rfl
  t5 := Tryd.underlying5
  a5 := Tryd.isAgg5
  z5 := Tryd.sizeOf5
  v5 := Tryd.zeroValue5
  i5 := by kernel_rfl
  t22 := Tryd.underlying22
  a22 := Tryd.isAgg22
  z22 := Tryd.sizeOf22
  v22 := Tryd.zeroValue22
  i22 := by kernel_rfl
  t29 := Tryd.underlying61
  a29 := Tryd.isAgg61
  z29 := Tryd.sizeOf61
  v29 := Tryd.zeroValue61
  i29 := by kernel_rfl
  t37 := Tryd.underlying122
  a37 := Tryd.isAgg122
  z37 := Tryd.sizeOf122
  v37 := Tryd.zeroValue122
  i37 := by kernel_rfl
  t45 := Tryd.underlying112
  a45 := Tryd.isAgg112
  z45 := Tryd.sizeOf112
  v45 := Tryd.zeroValue112
  i45 := by kernel_rfl }
open Go.RowKit in
/-- binary.BigEndian.Uint32: "Uint32 returns the uint32 representation of b[0:4].": THE NUMBER THAT THE FIRST 4 BYTES SPELL, the greatest byte first ('Lib.beNat'). Of what was there nothing has turned (the receiver, an empty struct, is laid in a new block without cells; the statement's order is drawn). (LAID: no walk: one application.) -/
theorem Tryd.binary_BE_Uint32 (g o n c : Nat) (b0 b1 b2 b3 : UInt8) (w : World) (hn : 4 ≤ n) (c0 : w.cell? ⟨g, o, none⟩ = some (.int .u8 b0.toNat)) (c1 : w.cell? ⟨g, o + 1, none⟩ = some (.int .u8 b1.toNat)) (c2 : w.cell? ⟨g, o + 2, none⟩ = some (.int .u8 b2.toNat)) (c3 : w.cell? ⟨g, o + 3, none⟩ = some (.int .u8 b3.toNat)) :
    Calls Tryd.prog 104 #[.agg #[], .slice (some ⟨g, o, none⟩) n c] w fun e w' => e = .returned (.int .u32 (Lib.beNat [b0, b1, b2, b3])) ∧ Below w.heap.size w w' := Any.binary_BE_Uint32 Tryd.laysBin39 g o n c b0 b1 b2 b3 w hn c0 c1 c2 c3
def Tryd.laysBin42_ren : Go.Shelf.Ren := ⟨fun | 42 => 116 | n => n, fun | 37 => 122 | 22 => 22 | 33 => 120 | 0 => 0 | 5 => 5 | 45 => 112 | n => n, fun | n => n⟩
theorem Tryd.laysBin42 : Go.Proofs.LaysBin.n42 Tryd.prog Tryd.laysBin42_ren := {
  mixed := by kernel_rfl
  f42 := Tryd.func116.trans (congrArg some (by kernel_rfl))
  t0 := Tryd.underlying0
  a0 := Tryd.isAgg0
  z0 := Tryd.sizeOf0
  v0 := Tryd.zeroValue0
  i0 := by kernel_rfl
  t5 := Tryd.underlying5
  a5 := Tryd.isAgg5
  z5 := Tryd.sizeOf5
  v5 := Tryd.zeroValue5
  i5 := by kernel_rfl
  t22 := Tryd.underlying22
  a22 := Tryd.isAgg22
  z22 := Tryd.sizeOf22
  v22 := Tryd.zeroValue22
  i22 := by kernel_rfl
  t33 := Tryd.underlying120
  a33 := Tryd.isAgg120
  z33 := Tryd.sizeOf120
  v33 := Tryd.zeroValue120
  i33 := by kernel_rfl
  t37 := Tryd.underlying122
  a37 := Tryd.isAgg122
  z37 := Tryd.sizeOf122
  v37 := Tryd.zeroValue122
  i37 := by kernel_rfl
  t45 := Tryd.underlying112
  a45 := Tryd.isAgg112
  z45 := Tryd.sizeOf112
  v45 := Tryd.zeroValue112
  i45 := by kernel_rfl }
open Go.RowKit in
/-- binary.BigEndian.Uint64: "Uint64 returns the uint64 representation of b[0:8].": THE NUMBER THAT THE FIRST 8 BYTES SPELL, the greatest byte first ('Lib.beNat'). Of what was there nothing has turned (the receiver, an empty struct, is laid in a new block without cells; the statement's order is drawn). (LAID: no walk: one application.) -/
theorem Tryd.binary_BE_Uint64 (g o n c : Nat) (b0 b1 b2 b3 b4 b5 b6 b7 : UInt8) (w : World) (hn : 8 ≤ n) (c0 : w.cell? ⟨g, o, none⟩ = some (.int .u8 b0.toNat)) (c1 : w.cell? ⟨g, o + 1, none⟩ = some (.int .u8 b1.toNat)) (c2 : w.cell? ⟨g, o + 2, none⟩ = some (.int .u8 b2.toNat)) (c3 : w.cell? ⟨g, o + 3, none⟩ = some (.int .u8 b3.toNat)) (c4 : w.cell? ⟨g, o + 4, none⟩ = some (.int .u8 b4.toNat)) (c5 : w.cell? ⟨g, o + 5, none⟩ = some (.int .u8 b5.toNat)) (c6 : w.cell? ⟨g, o + 6, none⟩ = some (.int .u8 b6.toNat)) (c7 : w.cell? ⟨g, o + 7, none⟩ = some (.int .u8 b7.toNat)) :
    Calls Tryd.prog 116 #[.agg #[], .slice (some ⟨g, o, none⟩) n c] w fun e w' => e = .returned (.int .u64 (Lib.beNat [b0, b1, b2, b3, b4, b5, b6, b7])) ∧ Below w.heap.size w w' := Any.binary_BE_Uint64 Tryd.laysBin42 g o n c b0 b1 b2 b3 b4 b5 b6 b7 w hn c0 c1 c2 c3 c4 c5 c6 c7
def Tryd.laysGg6_ren : Go.Shelf.Ren := ⟨fun | 6 => 107 | 10 => 111 | 11 => 112 | 12 => 113 | 13 => 114 | 14 => 115 | 24 => 106 | 25 => 126 | 26 => 127 | 27 => 128 | 28 => 129 | 29 => 130 | 30 => 131 | 31 => 132 | 32 => 133 | 33 => 134 | 34 => 135 | 35 => 136 | 36 => 137 | 37 => 138 | 38 => 139 | 39 => 140 | n => n, fun | 20 => 20 | 26 => 130 | 35 => 137 | 0 => 0 | 37 => 139 | 3 => 3 | 41 => 112 | 44 => 144 | 49 => 61 | 51 => 120 | 4 => 4 | 54 => 152 | 53 => 151 | 58 => 156 | 5 => 5 | 9 => 9 | 60 => 158 | 64 => 161 | 66 => 163 | 67 => 164 | 17 => 17 | 32 => 134 | 33 => 135 | 82 => 179 | 12 => 12 | 75 => 172 | 76 => 173 | 77 => 174 | 78 => 175 | 79 => 176 | 80 => 177 | n => n, fun | n => n⟩
theorem Tryd.laysGg6 : Go.Proofs.LaysGg.n6 Tryd.prog Tryd.laysGg6_ren := {
  mixed := by kernel_rfl
  f6 := Tryd.func107.trans (congrArg some (by kernel_rfl))
  f10 := Tryd.func111.trans (congrArg some (by kernel_rfl))
  f11 := Tryd.func112.trans (congrArg some (by kernel_rfl))
  f12 := Tryd.func113.trans (congrArg some (by kernel_rfl))
  f13 := Tryd.func114.trans (congrArg some (by kernel_rfl))
  f14 := Tryd.func115.trans (congrArg some (by kernel_rfl))
  f24 := Tryd.func106.trans (congrArg some (by kernel_rfl))
  f25 := Tryd.func126.trans (congrArg some (by kernel_rfl))
  f26 := Tryd.func127.trans (congrArg some (by kernel_rfl))
  f27 := Tryd.func128.trans (congrArg some (by kernel_rfl))
  f28 := Tryd.func129.trans (congrArg some (by kernel_rfl))
  f29 := Tryd.func130.trans (congrArg some (by kernel_rfl))
  f30 := Tryd.func131.trans (congrArg some (by kernel_rfl))
  f31 := Tryd.func132.trans (congrArg some (by kernel_rfl))
  f32 := Tryd.func133.trans (congrArg some (by kernel_rfl))
  f33 := Tryd.func134.trans (congrArg some (by kernel_rfl))
  f34 := Tryd.func135.trans (congrArg some (by kernel_rfl))
  f35 := Tryd.func136.trans (congrArg some (by kernel_rfl))
  f36 := Tryd.func137.trans (congrArg some (by kernel_rfl))
  f37 := Tryd.func138.trans (congrArg some (by kernel_rfl))
  f38 := Tryd.func139.trans (congrArg some (by kernel_rfl))
  f39 := Tryd.func140.trans (congrArg some (by kernel_rfl))
  t0 := Tryd.underlying0
  a0 := Tryd.isAgg0
  z0 := Tryd.sizeOf0
  v0 := Tryd.zeroValue0
  i0 := by kernel_rfl
  t3 := Tryd.underlying3
  a3 := Tryd.isAgg3
  z3 := Tryd.sizeOf3
  v3 := Tryd.zeroValue3
  i3 := by kernel_rfl
  t4 := Tryd.underlying4
  a4 := Tryd.isAgg4
  z4 := Tryd.sizeOf4
  v4 := Tryd.zeroValue4
  i4 := by kernel_rfl
  t5 := Tryd.underlying5
  a5 := Tryd.isAgg5
  z5 := Tryd.sizeOf5
  v5 := Tryd.zeroValue5
  i5 := by kernel_rfl
  t9 := Tryd.underlying9
  a9 := Tryd.isAgg9
  z9 := Tryd.sizeOf9
  v9 := Tryd.zeroValue9
  i9 := by kernel_rfl
  t12 := Tryd.underlying12
  a12 := Tryd.isAgg12
  z12 := Tryd.sizeOf12
  v12 := Tryd.zeroValue12
  i12 := by kernel_rfl
  t17 := Tryd.underlying17
  a17 := Tryd.isAgg17
  z17 := Tryd.sizeOf17
  v17 := Tryd.zeroValue17
  i17 := by kernel_rfl
  t20 := Tryd.underlying20
  a20 := Tryd.isAgg20
  z20 := Tryd.sizeOf20
  v20 := Tryd.zeroValue20
  i20 := by kernel_rfl
  t26 := Tryd.underlying130
  a26 := Tryd.isAgg130
  z26 := Tryd.sizeOf130
  v26 := Tryd.zeroValue130
  i26 := by kernel_rfl
  t32 := Tryd.underlying134
  a32 := Tryd.isAgg134
  z32 := Tryd.sizeOf134
  v32 := Tryd.zeroValue134
  i32 := by kernel_rfl
  t33 := Tryd.underlying135
  a33 := Tryd.isAgg135
  z33 := Tryd.sizeOf135
  v33 := Tryd.zeroValue135
  i33 := by kernel_rfl
  t35 := Tryd.underlying137
  a35 := Tryd.isAgg137
  z35 := Tryd.sizeOf137
  v35 := Tryd.zeroValue137
  i35 := by kernel_rfl
  t37 := Tryd.underlying139
  a37 := Tryd.isAgg139
  z37 := Tryd.sizeOf139
  v37 := Tryd.zeroValue139
  i37 := by kernel_rfl
  t41 := Tryd.underlying112
  a41 := Tryd.isAgg112
  z41 := Tryd.sizeOf112
  v41 := Tryd.zeroValue112
  i41 := by kernel_rfl
  t44 := Tryd.underlying144
  a44 := Tryd.isAgg144
  z44 := Tryd.sizeOf144
  v44 := Tryd.zeroValue144
  i44 := by kernel_rfl
  t49 := Tryd.underlying61
  a49 := Tryd.isAgg61
  z49 := Tryd.sizeOf61
  v49 := Tryd.zeroValue61
  i49 := by kernel_rfl
  t51 := Tryd.underlying120
  a51 := Tryd.isAgg120
  z51 := Tryd.sizeOf120
  v51 := Tryd.zeroValue120
  i51 := by kernel_rfl
  t53 := Tryd.underlying151
  a53 := Tryd.isAgg151
  z53 := Tryd.sizeOf151
  v53 := Tryd.zeroValue151
  i53 := by kernel_rfl
  t54 := Tryd.underlying152
  a54 := Tryd.isAgg152
  z54 := Tryd.sizeOf152
  v54 := Tryd.zeroValue152
  i54 := by kernel_rfl
  t58 := Tryd.underlying156
  a58 := Tryd.isAgg156
  z58 := Tryd.sizeOf156
  v58 := Tryd.zeroValue156
  i58 := by kernel_rfl
  t60 := Tryd.underlying158
  a60 := Tryd.isAgg158
  z60 := Tryd.sizeOf158
  v60 := Tryd.zeroValue158
  i60 := by kernel_rfl
  t64 := Tryd.underlying161
  a64 := Tryd.isAgg161
  z64 := Tryd.sizeOf161
  v64 := Tryd.zeroValue161
  i64 := by kernel_rfl
  t66 := Tryd.underlying163
  a66 := Tryd.isAgg163
  z66 := Tryd.sizeOf163
  v66 := Tryd.zeroValue163
  i66 := by kernel_rfl
  t67 := Tryd.underlying164
  a67 := Tryd.isAgg164
  z67 := Tryd.sizeOf164
  v67 := Tryd.zeroValue164
  i67 := by kernel_rfl
  t75 := Tryd.underlying172
  a75 := Tryd.isAgg172
  z75 := Tryd.sizeOf172
  v75 := Tryd.zeroValue172
  i75 := by kernel_rfl
  t76 := Tryd.underlying173
  a76 := Tryd.isAgg173
  z76 := Tryd.sizeOf173
  v76 := Tryd.zeroValue173
  i76 := by kernel_rfl
  t77 := Tryd.underlying174
  a77 := Tryd.isAgg174
  z77 := Tryd.sizeOf174
  v77 := Tryd.zeroValue174
  i77 := by kernel_rfl
  t78 := Tryd.underlying175
  a78 := Tryd.isAgg175
  z78 := Tryd.sizeOf175
  v78 := Tryd.zeroValue175
  i78 := by kernel_rfl
  t79 := Tryd.underlying176
  a79 := Tryd.isAgg176
  z79 := Tryd.sizeOf176
  v79 := Tryd.zeroValue176
  i79 := by kernel_rfl
  t80 := Tryd.underlying177
  a80 := Tryd.isAgg177
  z80 := Tryd.sizeOf177
  v80 := Tryd.zeroValue177
  i80 := by kernel_rfl
  t82 := Tryd.underlying179
  a82 := Tryd.isAgg179
  z82 := Tryd.sizeOf179
  v82 := Tryd.zeroValue179
  i82 := by kernel_rfl }
open Go.RowKit Go.Lib Go.Sort in
/-- **sort.Slice AT NO ELEMENT OR ONE.** (LAID: no walk: one application.) -/
theorem Tryd.sort_Slice_tiny (t e : TypeId) (i ie : TypeInfo) (hi : Tryd.prog.info? t = some i) (hd : i.desc = .slice e) (hpk : Tryd.prog.packed t = false) (hie : Tryd.prog.info? e = some ie) (ke : Nat) (hke : ∀ w, (Extern.Rtype.kind e).run Tryd.prog w = .ok ke w) (p : Option Addr) (n c : Nat) (h1 : n ≤ 1) (f : Nat) (hf : Tryd.prog.funcs.findIdx? (·.name == "internal/reflectlite" ++ ".Swapper$" ++ toString (swapperK n ie ke)) = some f) (lf : Fn) (la lb : Array Value) (w : World) :
    Calls Tryd.prog 107 #[.iface t (.slice p n c), .func lf la lb] w fun e w' => e = .returned (.tuple #[]) ∧ ∃ os, w' = grow w os := Any.sort_Slice_tiny Tryd.laysGg6 t e i ie hi hd hpk hie ke hke p n c h1 f hf lf la lb w
open Go.RowKit Go.Lib Go.Sort in
/-- **sort.Slice, IN THE DOCUMENTATION's OWN TERMS: A PERMUTATION OF WHAT THE ROW HELD, SORTED BY 'lt'.** Which of two equals comes first is left open. (LAID: no walk: one application.) -/
theorem Tryd.sort_Slice_sorted {α : Type} [Inhabited α] (t e : TypeId) (i ie : TypeInfo) (hi : Tryd.prog.info? t = some i) (hd : i.desc = .slice e) (hpk : Tryd.prog.packed t = false) (hie : Tryd.prog.info? e = some ie) (ke : Nat) (hke : ∀ w, (Extern.Rtype.kind e).run Tryd.prog w = .ok ke w) (hs1 : ie.size = 1) (hagg : ∀ w, (isAgg e).run Tryd.prog w = .ok false w) (enc : α → Value) (h1 : ∀ x, (enc x).oneCell' = true) (lt : α → α → Bool) (hO : SWO lt) (g : Nat) (lb : Array Value) (eg : ∀ args w, (callFunc g args).run Tryd.prog w = .ok (.enter g args) w) (blk off c : Nat) (d : Array α) (h2 : 2 ≤ d.size) (hsz : d.size < 4611686018427387904) (f : Nat) (hf : Tryd.prog.funcs.findIdx? (·.name == "internal/reflectlite" ++ ".Swapper$" ++ toString (swapperK d.size ie ke)) = some f) (gS : Bool) (hx : ∀ args W, (callFunc f args).run Tryd.prog W = ((Extern.ReflectliteSwapper.swap gS args).run Tryd.prog W).andThen fun v w' => .ok (.value v) w') (w : World) (hless : LessReads Tryd.prog g lb enc lt blk off d.size w) (hH : Holds enc w blk off d) (hblk : blk < w.heap.size) :
    Calls Tryd.prog 107 #[.iface t (.slice (some ⟨blk, off, none⟩) d.size c), .func (.func g) #[] lb] w fun e w' =>
      e = .returned (.tuple #[]) ∧ ∃ d' n os, PermIn 0 d.size d d' ∧ SortedIn lt 0 d.size d' ∧ w' = grow (putRow enc (Sort.ahead w n) blk off d') os := Any.sort_Slice_sorted Tryd.laysGg6 t e i ie hi hd hpk hie ke hke hs1 hagg enc h1 lt hO g lb eg blk off c d h2 hsz f hf gS hx w hless hH hblk
end Go.Proofs
