/- Shared texts of these proofs, laid together by merge.py: Pure, Sch, Base, Append, Rep, Rd, Step, Reg, Shelf, Ka. -/
import Derived.WalkKit
import Derived.WalkSpells
import Derived.WalkLawsBesides
import Derived.Deep.AppendSrc
import Derived.Shelf.Small.Bits
import Derived.Shelf.Bin.BEUint16
import Derived.Shelf.Bin.BEUint32
import Derived.Shelf.Bin.BEUint64
import Derived.Test.YtmpilpgabelmiaaGreatDoorProg
import Derived.Lib.ItoaNum
import Derived.Lib.Hide
set_option linter.unusedVariables false
/- Plain functions on bytes: numbers with the highest octet first, numbers in groups of seven bits. No program in sight. -/
namespace Go.Proofs.YtmpilpgabelmiaaGreatDoor

/-- The lowest octet of a number. -/
def bb (n : Int) : UInt8 := UInt8.ofNat (n % 256).toNat
def be16 (x : Int) : List UInt8 := [bb (x / 256), bb x]
def be32 (x : Int) : List UInt8 := [bb (x / 16777216), bb (x / 65536), bb (x / 256), bb x]
def be64 (x : Int) : List UInt8 := [bb (x / 72057594037927936), bb (x / 281474976710656), bb (x / 1099511627776), bb (x / 4294967296), bb (x / 16777216), bb (x / 65536), bb (x / 256), bb x]
/-- A number in groups of seven bits, the lowest first. -/
def uvF : Nat → Nat → List UInt8
  | 0, n => [UInt8.ofNat n]
  | k + 1, n => if n < 128 then [UInt8.ofNat n] else UInt8.ofNat (n % 128 + 128) :: uvF k (n / 128)
def uv (n : Nat) : List UInt8 := uvF 9 n
theorem be16_length (x : Int) : (be16 x).length = 2 := rfl
theorem be32_length (x : Int) : (be32 x).length = 4 := rfl
theorem be64_length (x : Int) : (be64 x).length = 8 := rfl
theorem bb_mod (x : Int) : bb (x % 256) = bb x := by unfold bb; congr 2; omega
theorem be16_mod (x : Int) : be16 (x % 65536) = be16 x := by
  unfold be16 bb; simp only [List.cons.injEq, and_true]; refine ⟨?_, ?_⟩ <;> (congr 2; omega)
theorem be32_mod (x : Int) : be32 (x % 4294967296) = be32 x := by
  unfold be32 bb; simp only [List.cons.injEq, and_true]; refine ⟨?_, ?_, ?_, ?_⟩ <;> (congr 2; omega)
theorem be64_mod (x : Int) : be64 (x % 18446744073709551616) = be64 x := by
  unfold be64 bb; simp only [List.cons.injEq, and_true]; refine ⟨?_, ?_, ?_, ?_, ?_, ?_, ?_, ?_⟩ <;> (congr 2; omega)
theorem uv1 {n : Nat} (h : n < 128) : uv n = [UInt8.ofNat n] := by simp [uv, uvF, h]
theorem uv2 {n : Nat} (h : 128 ≤ n) (h' : n < 16384) : uv n = [UInt8.ofNat (n % 128 + 128), UInt8.ofNat (n / 128)] := by
  have h1 : ¬ n < 128 := by omega
  have h2 : n / 128 < 128 := by omega
  simp [uv, uvF, h1, h2]
theorem uv3 {n : Nat} (h : 16384 ≤ n) (h' : n < 2097152) : uv n = [UInt8.ofNat (n % 128 + 128), UInt8.ofNat (n / 128 % 128 + 128), UInt8.ofNat (n / 16384)] := by
  have h1 : ¬ n < 128 := by omega
  have h2 : ¬ n / 128 < 128 := by omega
  have h3 : n / 128 / 128 < 128 := by omega
  have e : n / 128 / 128 = n / 16384 := by omega
  simp [uv, uvF, h1, h2, e]
  omega
theorem uv4 {n : Nat} (h : 2097152 ≤ n) (h' : n < 268435456) : uv n = [UInt8.ofNat (n % 128 + 128), UInt8.ofNat (n / 128 % 128 + 128), UInt8.ofNat (n / 16384 % 128 + 128), UInt8.ofNat (n / 2097152)] := by
  have h1 : ¬ n < 128 := by omega
  have h2 : ¬ n / 128 < 128 := by omega
  have h3 : ¬ n / 128 / 128 < 128 := by omega
  have h4 : n / 128 / 128 / 128 < 128 := by omega
  have e : n / 128 / 128 = n / 16384 := by omega
  have e2 : n / 16384 / 128 = n / 2097152 := by omega
  rw [e] at h3 h4
  rw [e2] at h4
  simp [uv, uvF, h1, h2, h3, h4, e, e2]
theorem uv5 {n : Nat} (h : 268435456 ≤ n) (h' : n < 4294967296) : uv n = [UInt8.ofNat (n % 128 + 128), UInt8.ofNat (n / 128 % 128 + 128), UInt8.ofNat (n / 16384 % 128 + 128), UInt8.ofNat (n / 2097152 % 128 + 128), UInt8.ofNat (n / 268435456)] := by
  have h1 : ¬ n < 128 := by omega
  have h2 : ¬ n / 128 < 128 := by omega
  have h3 : ¬ n / 128 / 128 < 128 := by omega
  have h4 : ¬ n / 128 / 128 / 128 < 128 := by omega
  have h5 : n / 128 / 128 / 128 / 128 < 128 := by omega
  have e : n / 128 / 128 = n / 16384 := by omega
  have e2 : n / 16384 / 128 = n / 2097152 := by omega
  have e3 : n / 2097152 / 128 = n / 268435456 := by omega
  rw [e] at h3 h4 h5
  rw [e2] at h4 h5
  rw [e3] at h5
  simp [uv, uvF, h1, h2, h3, h4, h5, e, e2, e3]
theorem uvF_length (k n : Nat) : (uvF k n).length ≤ k + 1 ∧ 1 ≤ (uvF k n).length := by
  induction k generalizing n with
  | zero => simp [uvF]
  | succ k ih =>
    unfold uvF
    split
    · simp
    · have := ih (n / 128)
      simp only [List.length_cons]
      omega
theorem uv_length (n : Nat) : (uv n).length ≤ 10 := (uvF_length 9 n).1
theorem uv_pos (n : Nat) : 1 ≤ (uv n).length := (uvF_length 9 n).2

end Go.Proofs.YtmpilpgabelmiaaGreatDoor

/- Messages as data: what a part has (Sch), what it says (GV), and what is written of it (ap). No program in sight. -/
namespace Go.Proofs.YtmpilpgabelmiaaGreatDoor

/-- The kinds of fields that are not made of others. 'nstrFrom n': a text that may be null from version n on. -/
inductive Leaf where
  | i8 | i16 | i32 | i64 | u16 | bool | uuid | str | nstr | bytes
  | nstrFrom (n : Int)

/-- A part: its fields in order, each at a cell, with the versions that have it (from, to); 'tags off': its end, the unknown tags at cell off; 'done': its end, without tags; 'ktag': at its end, ahead of 'tags': the field of a known tag (the numbers rise from 0 on), its default. A list: null by this version on (none: never), the cells of an element, the element. -/
inductive Sch where
  | leaf (k : Leaf)
  | list (nul : Option Int) (esz : Nat) (e : Sch)
  | opt (e : Sch)
  | done
  | tags (off : Nat)
  | cons (off : Nat) (lo : Int) (hi : Option Int) (f rest : Sch)
  | ktag (off : Nat) (d : Int) (f rest : Sch)

/-- What a part says. -/
inductive GV where
  | int (n : Int)
  | bool (b : Bool)
  | bytes (b : List UInt8)
  | null
  | list (l : List GV)
  | tags (l : List (Nat × List UInt8))
  | cons (v rest : GV)
  | unit

/-- Does a version have the field? -/
def hasV (lo : Int) (hi : Option Int) (ver : Int) : Bool := decide (lo ≤ ver) && (match hi with | none => true | some h => decide (ver ≤ h))

def lenS (flex : Bool) (n : Nat) : List UInt8 := if flex then uv (n + 1) else be16 n
def lenB (flex : Bool) (n : Nat) : List UInt8 := if flex then uv (n + 1) else be32 n
def nulS (flex : Bool) : List UInt8 := if flex then uv 0 else be16 (-1)
def nulB (flex : Bool) : List UInt8 := if flex then uv 0 else be32 (-1)

def apLeaf (ver : Int) (flex : Bool) : Leaf → GV → List UInt8
  | .i8, .int n => [bb n]
  | .i16, .int n => be16 n
  | .u16, .int n => be16 n
  | .i32, .int n => be32 n
  | .i64, .int n => be64 n
  | .bool, .bool b => [if b then 1 else 0]
  | .uuid, .bytes b => b
  | .str, .bytes b => lenS flex b.length ++ b
  | .nstr, .bytes b => lenS flex b.length ++ b
  | .nstr, .null => nulS flex
  | .nstrFrom _, .bytes b => lenS flex b.length ++ b
  | .nstrFrom n, .null => if ver < n then lenS flex 0 else nulS flex
  | .bytes, .bytes b => lenB flex b.length ++ b
  | _, _ => []

def apTags (l : List (Nat × List UInt8)) : List UInt8 := l.flatMap fun t => uv t.1 ++ uv t.2.length ++ t.2

/-- A field of a known tag as it is by default. -/
def dfl : Sch → Int → GV
  | .leaf .i16, d => .int d
  | .leaf .i64, d => .int d
  | .leaf .uuid, _ => .bytes (List.replicate 16 0)
  | .leaf .nstr, _ => .null
  | .list _ _ _, _ => .list []
  | _, _ => .unit
/-- Is it as it is by default? -/
def usual : Sch → Int → GV → Bool
  | .leaf .i16, d, .int n => n == d
  | .leaf .i64, d, .int n => n == d
  | .leaf .uuid, _, .bytes b => b == List.replicate 16 0
  | .leaf .nstr, _, .null => true
  | .list _ _ _, _, .list l => l.isEmpty
  | _, _, _ => false
/-- How many known tags a part has. -/
def knownN : Sch → Nat
  | .ktag _ _ _ rest => knownN rest + 1
  | _ => 0
/-- How many tags are written of a part's end. -/
def kn : Sch → GV → Nat
  | .tags _, .tags l => l.length
  | .ktag _ d f rest, .cons v vs => (if usual f d v then 0 else 1) + kn rest vs
  | _, _ => 0
def kOut (l : List (Nat × List UInt8)) : List UInt8 := uv l.length ++ apTags l
mutual
/-- What is written of a part, a list, a field. -/
def ap (ver : Int) (flex : Bool) : Sch → GV → List UInt8
  | .leaf k, v => apLeaf ver flex k v
  | .list _ _ e, .list l => lenB flex l.length ++ l.flatMap (ap ver flex e)
  | .list _ _ _, .null => nulB flex
  | .opt _, .null => [255]
  | .opt e, v => 1 :: ap ver flex e v
  | .tags _, .tags l => if flex then uv l.length ++ apTags l else []
  | .cons _ lo hi f rest, .cons v vs => (if hasV lo hi ver then ap ver flex f v else []) ++ ap ver flex rest vs
  | .ktag _ d f rest, .cons v vs => if flex then kOut ((if usual f d v then [] else [(0, ap ver flex f v)]) ++ kt ver flex rest 1 vs) else []
  | _, _ => []
/-- The tags that are written of a part, from known tag i on: those that are not as by default, and the unknown ones. -/
def kt (ver : Int) (flex : Bool) : Sch → Nat → GV → List (Nat × List UInt8)
  | .tags _, _, .tags l => l
  | .ktag _ d f rest, i, .cons v vs => (if usual f d v then [] else [(i, ap ver flex f v)]) ++ kt ver flex rest (i + 1) vs
  | _, _, _ => []
end

end Go.Proofs.YtmpilpgabelmiaaGreatDoor

/- Memory words of these proofs: blocks, bytes of the call's own, bytes that are read, what stays. No program in sight. -/
namespace Go.Proofs.YtmpilpgabelmiaaGreatDoor
open Go Go.RowKit

/-- The most bytes that are ever written one behind the other: what a length in 32 bits can tell. -/
def lim : Nat := 4294967295
theorem lim_room {n : Nat} (h : n ≤ lim) : n * 1 ≤ 140737488355328 := by unfold lim at h; omega
theorem lim_max {n : Nat} (h : n ≤ lim) : n ≤ maxLen := by unfold lim at h; unfold maxLen; omega
theorem lim_int {n : Nat} (h : n ≤ lim) : n ≤ 9223372036854775807 := by unfold lim at h; omega

/-- A byte as a cell. -/
def byteV (b : UInt8) : Value := .int .u8 (b.toNat : Int)

/-- Block b holds the cells c. -/
def Blk (w : World) (b : Nat) (c : List Value) (T : Nat) : Prop := w.heap[b]? = some (.cells c.toArray T (0, 0))

/-- All that stood in w stands in w', but for the blocks of O. -/
structure Keeps (O : List Nat) (w w' : World) : Prop where
  os : w'.os = w.os
  tape : w'.tape = w.tape
  output : w'.output = w.output
  size : w.heap.size ≤ w'.heap.size
  block : ∀ k, k < w.heap.size → k ∉ O → w'.heap[k]? = w.heap[k]?

theorem Keeps.refl (O : List Nat) (w : World) : Keeps O w w := ⟨rfl, rfl, rfl, Nat.le_refl _, fun _ _ _ => rfl⟩
theorem Keeps.trans {O : List Nat} {a b c : World} (h : Keeps O a b) (k : Keeps O b c) : Keeps O a c :=
  ⟨k.os.trans h.os, k.tape.trans h.tape, k.output.trans h.output, Nat.le_trans h.size k.size,
   fun i hi ho => (k.block i (Nat.lt_of_lt_of_le hi h.size) ho).trans (h.block i hi ho)⟩
theorem Keeps.mono {O O' : List Nat} {w w' : World} (h : Keeps O w w') (hs : ∀ k, k ∈ O → k ∈ O') : Keeps O' w w' :=
  ⟨h.os, h.tape, h.output, h.size, fun k hk ho => h.block k hk (fun x => ho (hs k x))⟩
/-- New blocks that were open in between are none of the old. -/
theorem Keeps.close {O : List Nat} {n : Nat} {w w' : World} (h : Keeps (n :: O) w w') (hn : w.heap.size ≤ n) : Keeps O w w' :=
  ⟨h.os, h.tape, h.output, h.size, fun k hk ho => h.block k hk (by simp only [List.mem_cons, not_or]; exact ⟨by omega, ho⟩)⟩
theorem Keeps.drew {O : List Nat} {a w : World} (h : Keeps O a w) : Keeps O a w.drew := ⟨h.os, h.tape, h.output, h.size, h.block⟩
theorem Keeps.drewN {O : List Nat} {a w : World} (h : Keeps O a w) (n : Nat) : Keeps O a (w.drewN n) := ⟨h.os, h.tape, h.output, h.size, h.block⟩
theorem Keeps.alloc {O : List Nat} {a w : World} (h : Keeps O a w) (o : Obj) : Keeps O a (w.alloc o) :=
  h.trans ⟨rfl, rfl, rfl, by simp, fun k hk _ => Below.heap_alloc _ _ _ hk⟩
theorem Keeps.setCell {O : List Nat} {a w : World} (h : Keeps O a w) {p : Addr} (hp : p.block ∈ O) (u : Value) : Keeps O a (w.setCell p u) :=
  h.trans ⟨rfl, rfl, rfl, by simp [World.setCell], fun k _ ho => Below.heap_setCell _ _ _ _ (fun e => ho (e ▸ hp))⟩
theorem Keeps.setCellNew {O : List Nat} {a w : World} (h : Keeps O a w) {p : Addr} (hp : a.heap.size ≤ p.block) (u : Value) : Keeps O a (w.setCell p u) :=
  ⟨h.os, h.tape, h.output, by simpa [World.setCell] using h.size, fun k hk ho => (Below.heap_setCell _ _ _ _ (by omega)).trans (h.block k hk ho)⟩
theorem Keeps.below {O : List Nat} {B : Nat} {w w' : World} (h : Keeps O w w') (hB : B ≤ w.heap.size) (hO : ∀ k, k ∈ O → B ≤ k) : Below B w w' :=
  ⟨h.os, h.tape, h.output, h.size, fun k hk => h.block k (by omega) (fun x => by have := hO k x; omega)⟩
theorem Keeps.of_below {O : List Nat} {B : Nat} {w w' : World} (h : Below B w w') (hB : w.heap.size ≤ B) : Keeps O w w' :=
  ⟨h.os, h.tape, h.output, h.size, fun k hk _ => h.block k (by omega)⟩
theorem Keeps.grown {O : List Nat} {a w w' : World} {row : Option Nat} (h : Keeps O a w) (hg : w.grownBy w' row) (hr : ∀ k, row = some k → k ∈ O ∨ a.heap.size ≤ k) : Keeps O a w' :=
  ⟨hg.os.trans h.os, hg.tape.trans h.tape, hg.output.trans h.output, Nat.le_trans h.size hg.size,
   fun k hk ho => (hg.block k (Nat.lt_of_lt_of_le hk h.size) (fun e => by rcases hr k e.symm with x | x; exact ho x; omega)).trans (h.block k hk ho)⟩

theorem Blk.lt {w : World} {b T : Nat} {c : List Value} (h : Blk w b c T) : b < w.heap.size := (Array.getElem?_eq_some_iff.1 h).1
theorem Blk.keeps {O : List Nat} {w w' : World} {b T : Nat} {c : List Value} (h : Blk w b c T) (hk : Keeps O w w') (ho : b ∉ O) : Blk w' b c T :=
  (hk.block b h.lt ho).trans h
theorem Blk.below {w w' : World} {b T B : Nat} {c : List Value} (h : Blk w b c T) (hk : Below B w w') (hb : b < B) : Blk w' b c T :=
  (hk.block b hb).trans h
theorem Blk.cell {w : World} {b T : Nat} {c : List Value} (h : Blk w b c T) (i : Nat) : w.cell? ⟨b, i, none⟩ = c[i]? := by
  unfold Blk at h
  simp [World.cell?, h]
theorem Blk.cell_some {w : World} {b T i : Nat} {v : Value} {c : List Value} (h : Blk w b c T) (hi : c[i]? = some v) : w.cell? ⟨b, i, none⟩ = some v := (h.cell i).trans hi
theorem Blk.frozen {w : World} {b T : Nat} {c : List Value} (h : Blk w b c T) (i : Nat) : w.frozen? ⟨b, i, none⟩ = false := by
  unfold Blk at h
  simp [World.frozen?, h]
theorem Blk.set {w : World} {b T : Nat} {c : List Value} (h : Blk w b c T) (i : Nat) (v : Value) : Blk (w.setCell ⟨b, i, none⟩ v) b (c.set i v) T := by
  unfold Blk at h ⊢
  simp only [World.setCell, Array.getElem?_modify, if_true, h, Option.map_some]
  simp
theorem Blk.set_other {w : World} {b b' T : Nat} {c : List Value} (h : Blk w b c T) (hne : b ≠ b') (i : Nat) (v : Value) : Blk (w.setCell ⟨b', i, none⟩ v) b c T := by
  unfold Blk at h ⊢
  rw [Below.heap_setCell _ _ _ _ hne]
  exact h
theorem Blk.alloc {w : World} {b T : Nat} {c : List Value} (h : Blk w b c T) (o : Obj) : Blk (w.alloc o) b c T :=
  (Below.heap_alloc w o b h.lt).trans h
theorem Blk.alloc_new (w : World) (c : List Value) (T : Nat) : Blk (w.alloc (.cells c.toArray T)) w.heap.size c T := heap_alloc_new w _
theorem Blk.drew {w : World} {b T : Nat} {c : List Value} (h : Blk w b c T) : Blk w.drew b c T := h
theorem Blk.drewN {w : World} {b T : Nat} {c : List Value} (h : Blk w b c T) (n : Nat) : Blk (w.drewN n) b c T := h
theorem Blk.uniq {w : World} {b T : Nat} {c c' : List Value} (h : Blk w b c T) (h' : Blk w b c' T) : c = c' := by
  have := h.symm.trans h'
  simp at this
  exact this

/-- Bytes in memory, outside the open blocks O. -/
def RB (O : List Nat) (w : World) (v : Value) (bs : List UInt8) : Prop :=
  ∃ a cap, v = .slice a bs.length cap ∧ bs.length ≤ cap ∧ cap ≤ 9223372036854775807 ∧
    (bs ≠ [] → ∃ b o, a = some ⟨b, o, none⟩ ∧ b ∉ O ∧ ∀ i u, bs[i]? = some u → w.cell? ⟨b, o + i, none⟩ = some (byteV u))
theorem RB.keeps {O : List Nat} {w w' : World} {v : Value} {bs : List UInt8} (h : RB O w v bs) (hk : Keeps O w w') : RB O w' v bs := by
  obtain ⟨a, cap, hv, h1, h2, h3⟩ := h
  refine ⟨a, cap, hv, h1, h2, fun hne => ?_⟩
  obtain ⟨b, o, ha, hb, hc⟩ := h3 hne
  refine ⟨b, o, ha, hb, fun i u hi => ?_⟩
  have h0 := hc i u hi
  have hlt : b < w.heap.size := World.block_lt_of_cell? w _ h0
  rw [← h0]
  exact World.cell?_of_block (hk.block b hlt hb)
theorem RB.mono {O O' : List Nat} {w : World} {v : Value} {bs : List UInt8} (h : RB O w v bs) (hs : ∀ k, k ∈ O' → k ∈ O) : RB O' w v bs := by
  obtain ⟨a, cap, hv, h1, h2, h3⟩ := h
  refine ⟨a, cap, hv, h1, h2, fun hne => ?_⟩
  obtain ⟨b, o, ha, hb, hc⟩ := h3 hne
  exact ⟨b, o, ha, fun x => hb (hs b x), hc⟩
/-- A block that is new is open to nobody's bytes. -/
theorem RB.openNew {O : List Nat} {n : Nat} {w : World} {v : Value} {bs : List UInt8} (h : RB O w v bs) (hn : w.heap.size ≤ n) : RB (n :: O) w v bs := by
  obtain ⟨a, cap, hv, h1, h2, h3⟩ := h
  refine ⟨a, cap, hv, h1, h2, fun hne => ?_⟩
  obtain ⟨b, o, ha, hb, hc⟩ := h3 hne
  refine ⟨b, o, ha, ?_, hc⟩
  cases bs with
  | nil => exact absurd rfl hne
  | cons u l =>
    have hlt : b < w.heap.size := World.block_lt_of_cell? w _ (hc 0 u rfl)
    simp only [List.mem_cons, not_or]
    exact ⟨by omega, hb⟩
theorem RB.nil (O : List Nat) (w : World) : RB O w (.slice none 0 0) [] := ⟨none, 0, rfl, Nat.le_refl _, by omega, fun h => absurd rfl h⟩

/-- Bytes in memory, in a block below B. -/
def RL (B : Nat) (w : World) (v : Value) (bs : List UInt8) : Prop :=
  ∃ a cap, v = .slice a bs.length cap ∧ bs.length ≤ cap ∧ cap ≤ 9223372036854775807 ∧
    (bs ≠ [] → ∃ b o, a = some ⟨b, o, none⟩ ∧ b < B ∧ ∀ i u, bs[i]? = some u → w.cell? ⟨b, o + i, none⟩ = some (byteV u))
theorem RB.rl {O : List Nat} {w : World} {v : Value} {bs : List UInt8} (h : RB O w v bs) : RL w.heap.size w v bs := by
  obtain ⟨a, cap, hv, h1, h2, h3⟩ := h
  refine ⟨a, cap, hv, h1, h2, fun hne => ?_⟩
  obtain ⟨b, o, ha, hb, hc⟩ := h3 hne
  cases bs with
  | nil => exact absurd rfl hne
  | cons u l => exact ⟨b, o, ha, World.block_lt_of_cell? w _ (hc 0 u rfl), hc⟩
theorem RL.below {B : Nat} {w w' : World} {v : Value} {bs : List UInt8} (h : RL B w v bs) (hk : Below B w w') : RL B w' v bs := by
  obtain ⟨a, cap, hv, h1, h2, h3⟩ := h
  refine ⟨a, cap, hv, h1, h2, fun hne => ?_⟩
  obtain ⟨b, o, ha, hb, hc⟩ := h3 hne
  exact ⟨b, o, ha, hb, fun i u hi => (hk.cell hb).trans (hc i u hi)⟩

/-- Bytes of the call's own, from block base on. -/
def Own (base : Nat) (w : World) (v : Value) (bs : List UInt8) : Prop := w.ownsRow base 5 1 v bs.length (bs.map byteV)

end Go.Proofs.YtmpilpgabelmiaaGreatDoor

/- Appending to bytes (or cells) of the call's own, from whatever source: one law, no program in sight. -/
namespace Go.Proofs.YtmpilpgabelmiaaGreatDoor
open Go Go.RowKit

/-- A walk stands still here: what is under it is met by hand. -/
def Halted (p : Prop) : Prop := p
theorem halted {p : Prop} (h : Halted p) : p := h

theorem own_append_src {P : Program} (w : World) (base : Nat) (t tx ty e : TypeId) (i : TypeInfo) (z : Value) (ht : P.underlying t = some (.slice e)) (hi : P.info? e = some i) (hz : i.zero = some z)
    (hzs : z.cells.size = i.size) (v : Value) (n : Nat) (xs : List Value) (hown : w.ownsRow base e i.size v n xs)
    (x : Value) (m : Nat) (news : List Value) (hs : Src P i.size tx x m news w)
    (h63 : n + m ≤ maxLen) (hbytes : (n + m) * i.bytes ≤ 140737488355328) (hbase : base ≤ w.heap.size) :
    ∃ v' w', (Builtin.append_ #[t, tx] ty #[v, x]).run P w = .ok v' w' ∧ w'.ownsRow base e i.size v' (n + m) (xs ++ news) ∧ w.grownBy w' v.ownBlock ∧
      (v' = .slice none 0 0 ↔ v = .slice none 0 0 ∧ m = 0) ∧ (∀ k, v'.ownBlock = some k → v.ownBlock = some k ∨ w.heap.size ≤ k) := by
  have hsmall : n + m ≤ 9223372036854775807 := by simp only [maxLen] at h63; omega
  have hl := hs.newsLen
  have hlen : (xs ++ news).length = (n + m) * i.size := by rw [List.length_append, hown.1, hl, Nat.add_mul]
  have grown : ∀ (old : Nat), old < n + m → ∀ (row : Option Nat),
      (w.drew.alloc (.cells ((xs ++ news).toArray ++ Builtin.zeroCells z.cells (grownCap w (n + m) old e - (n + m))) e)).ownsRow base e i.size
        (.slice (some ⟨w.heap.size, 0, none⟩) (n + m) (grownCap w (n + m) old e)) (n + m) (xs ++ news) ∧
      w.grownBy (w.drew.alloc (.cells ((xs ++ news).toArray ++ Builtin.zeroCells z.cells (grownCap w (n + m) old e - (n + m))) e)) row := by
    intro old ho row
    have hge := grownCap_ge w (n + m) old e
    have hcm : grownCap w (n + m) old e ≤ maxLen := grownCap_le_maxLen w (n + m) old e h63
    refine ⟨⟨hlen, .inr ⟨w.heap.size, _, _, rfl, hbase, heap_alloc_new w.drew _, hge, hcm, ?_, ?_⟩⟩, ⟨rfl, rfl, rfl, by simp, fun k hk _ => Below.heap_alloc w.drew _ k hk⟩⟩
    · simp only [Array.size_append, List.size_toArray, size_zeroCells, hzs, hlen, ← Nat.add_mul]
      congr 1
      omega
    · simp only [Array.toList_append]
      rw [← hlen]
      exact List.take_left
  rcases hown.2 with ⟨rfl, rfl⟩ | ⟨g, cap, cur, rfl, hbg, hg, hnc, hcm, hcs, htake⟩
  · have hx : xs = [] := List.eq_nil_of_length_eq_zero (by simpa using hown.1)
    subst hx
    by_cases hm : m = 0
    · subst hm
      have hn : news = [] := List.eq_nil_of_length_eq_zero (by simpa using hl)
      subst hn
      refine ⟨.slice none 0 0, w, ?_, World.ownsRow_nil w base e i.size, ⟨rfl, rfl, rfl, Nat.le_refl _, fun _ _ _ => rfl⟩, by simp, fun k hk => .inl hk⟩
      rcases hs.kind with ⟨e', hk⟩ | hk <;> simp [Builtin.append_, run_underlying ht, run_underlying hk, sizeOf, typeInfo, hi, hs.len, hs.cells]
    · have hr := run_append_grow_src (P := P) w t tx ty e i z ht hi hz none 0 0 [] (run_firstCells_none w.drew i.size 0 0 0) x m news hs (by omega) (by omega) (growslice_fits (by omega) (by simpa using hbytes))
      have hgr := grown 0 (by omega) (Value.ownBlock (.slice none 0 0))
      simp only [Nat.zero_add, List.nil_append] at hgr hr ⊢
      exact ⟨_, _, hr, hgr.1, hgr.2, by simp [hm], fun k hk => .inr (by cases hk; exact Nat.le_refl _)⟩
  · by_cases hroom : n + m ≤ cap
    · have hfit : n * i.size + news.length ≤ cur.size := by rw [hl, hcs, ← Nat.add_mul]; exact Nat.mul_le_mul_right _ hroom
      have hst := run_storeCells_at P g (n * i.size) e news 0 cur w hg (by simpa using hfit) hs.one
      simp only [Nat.add_zero] at hst
      have hr : (Builtin.append_ #[t, tx] ty #[.slice (some ⟨g, 0, none⟩) n cap, x]).run P w =
          .ok (.slice (some ⟨g, 0, none⟩) (n + m) cap) (w.setRow g (cur.toList.take (n * i.size) ++ news ++ cur.toList.drop (n * i.size + news.length)).toArray) := by
        rcases hs.kind with ⟨e', hk⟩ | hk <;> simp [Builtin.append_, run_underlying ht, run_underlying hk, sizeOf, typeInfo, hi, hs.len, hroom, hs.cells, Addr.add_lit, hst]
      refine ⟨_, _, hr, ⟨hlen, .inr ⟨g, cap, _, rfl, hbg, setRow_heap w g cur _ e _ hg, hroom, hcm, ?_, ?_⟩⟩, ⟨rfl, rfl, rfl, by simp, fun k _ hk => setRow_other w g k _ (fun e => hk (by simp [Value.ownBlock, e]))⟩, by simp, fun k hk => .inl hk⟩
      · simp only [List.size_toArray, List.length_append, List.length_take, List.length_drop, Array.length_toList]
        omega
      · rw [htake, ← hlen]
        exact List.take_left
    · have holds : ∀ j u, xs[j]? = some u → w.drew.cell? ((⟨g, 0, none⟩ : Addr).add j) = some u := fun j u hu => by simpa using hown.cells (g := g) rfl j u hu
      have hr := run_append_grow_src (P := P) w t tx ty e i z ht hi hz (some ⟨g, 0, none⟩) n cap xs (run_firstCells_some w.drew i.size n ⟨g, 0, none⟩ n cap xs hown.1 holds) x m news hs (by omega) (by omega) (growslice_fits (by omega) hbytes)
      have hgr := grown cap (by omega) (Value.ownBlock (.slice (some ⟨g, 0, none⟩) n cap))
      exact ⟨_, _, hr, hgr.1, hgr.2, by simp, fun k hk => .inr (by cases hk; exact Nat.le_refl _)⟩

theorem wp_append_src {P : Program} {w : World} {o : Oper} {a : Act} {K : Act → World → Prop} {Q : Exit → Act → World → Prop} (s x : Operand) (t tx : TypeId)
    (ho : o.op = .call { callee := .builtin .append, args := #[s, x], argTypes := #[t, tx] })
    (base : Nat) (e : TypeId) (i : TypeInfo) (z : Value) (size bytes : Nat) (ht : P.underlying t = some (.slice e)) (hi : P.info? e = some i) (hz : i.zero = some z)
    (hsize : i.size = size) (hby : i.bytes = bytes) (hzs : z.cells.size = size)
    (v : Value) (n : Nat) (xs : List Value) (hsv : a.eval s = v) (hown : w.ownsRow base e size v n xs)
    (xv : Value) (m : Nat) (news : List Value) (hx : a.eval x = xv) (hs : Src P size tx xv m news w)
    (h63 : n + m ≤ maxLen) (hbytes : (n + m) * bytes ≤ 140737488355328) (hbase : base ≤ w.heap.size)
    (h : ∀ v' w', w'.ownsRow base e size v' (n + m) (xs ++ news) → w.grownBy w' v.ownBlock → (v' = .slice none 0 0 ↔ v = .slice none 0 0 ∧ m = 0) → K (a.put o.dst v') w') : o.wp P a w K Q := by
  subst hsize
  subst hby
  obtain ⟨v', w', hr, h2, h3, h4, -⟩ := own_append_src (P := P) w base t tx o.type e i z ht hi hz hzs v n xs hown xv m news hs h63 hbytes hbase
  unfold Oper.wp execOp
  simp only [ho, resolve, invoke, builtin, Sem.run_bind, Sem.run_pure, Result.andThen_ok, List.map_toArray, List.map_cons, List.map_nil, hsv, hx, hr]
  exact h v' w' h2 h3 h4

theorem wpl_append_src {P : Program} {w : World} {ops : Array Oper} {rest : List Oper} {o : Oper} {a : Act} {Q : Exit → Act → World → Prop} (hgd : o.guard = none) (s x : Operand) (t tx : TypeId)
    (ho : o.op = .call { callee := .builtin .append, args := #[s, x], argTypes := #[t, tx] })
    (base : Nat) (e : TypeId) (i : TypeInfo) (z : Value) (size bytes : Nat) (ht : P.underlying t = some (.slice e)) (hi : P.info? e = some i) (hz : i.zero = some z)
    (hsize : i.size = size) (hby : i.bytes = bytes) (hzs : z.cells.size = size)
    (v : Value) (n : Nat) (xs : List Value) (hsv : a.eval s = v) (hown : w.ownsRow base e size v n xs)
    (xv : Value) (m : Nat) (news : List Value) (hx : a.eval x = xv) (hs : Src P size tx xv m news w)
    (h63 : n + m ≤ maxLen) (hbytes : (n + m) * bytes ≤ 140737488355328) (hbase : base ≤ w.heap.size)
    (h : ∀ v' w', w'.ownsRow base e size v' (n + m) (xs ++ news) → w.grownBy w' v.ownBlock → (v' = .slice none 0 0 ↔ v = .slice none 0 0 ∧ m = 0) → wpList P ops Q rest (a.put o.dst v') w') : wpList P ops Q (o :: rest) a w :=
  wpList_plain hgd fun _ hK => wp_append_src s x t tx ho base e i z size bytes ht hi hz hsize hby hzs v n xs hsv hown xv m news hx hs h63 hbytes hbase fun v' w' h2 h3 h4 => hK _ _ (h v' w' h2 h3 h4)

theorem wp_append_srcZ {P : Program} {w : World} {o : Oper} {a : Act} {K : Act → World → Prop} {Q : Exit → Act → World → Prop} (s x : Operand) (t tx : TypeId)
    (ho : o.op = .call { callee := .builtin .append, args := #[s, x], argTypes := #[t, tx] })
    (base : Nat) (e : TypeId) (i : TypeInfo) (z : Value) (size bytes : Nat) (ht : P.underlying t = some (.slice e)) (hi : P.info? e = some i) (hz : i.zero = some z)
    (hsize : i.size = size) (hby : i.bytes = bytes) (hzs : z.cells.size = size)
    (v : Value) (n : Nat) (xs : List Value) (hsv : a.eval s = v) (hown : w.ownsRow base e size v n xs)
    (xv : Value) (m : Nat) (news : List Value) (hx : a.eval x = xv) (hs : Src P size tx xv m news w)
    (h63 : n + m ≤ maxLen) (hbytes : (n + m) * bytes ≤ 140737488355328) (hbase : base ≤ w.heap.size)
    (h : ∀ v' w', w'.ownsRow base e size v' (n + m) (xs ++ news) → w.grownBy w' v.ownBlock → (∀ k, v'.ownBlock = some k → v.ownBlock = some k ∨ w.heap.size ≤ k) → K (a.put o.dst v') w') : o.wp P a w K Q := by
  subst hsize
  subst hby
  obtain ⟨v', w', hr, h2, h3, -, h4⟩ := own_append_src (P := P) w base t tx o.type e i z ht hi hz hzs v n xs hown xv m news hs h63 hbytes hbase
  unfold Oper.wp execOp
  simp only [ho, resolve, invoke, builtin, Sem.run_bind, Sem.run_pure, Result.andThen_ok, List.map_toArray, List.map_cons, List.map_nil, hsv, hx, hr]
  exact h v' w' h2 h3 h4

theorem wpl_append_srcZ {P : Program} {w : World} {ops : Array Oper} {rest : List Oper} {o : Oper} {a : Act} {Q : Exit → Act → World → Prop} (hgd : o.guard = none) (s x : Operand) (t tx : TypeId)
    (ho : o.op = .call { callee := .builtin .append, args := #[s, x], argTypes := #[t, tx] })
    (base : Nat) (e : TypeId) (i : TypeInfo) (z : Value) (size bytes : Nat) (ht : P.underlying t = some (.slice e)) (hi : P.info? e = some i) (hz : i.zero = some z)
    (hsize : i.size = size) (hby : i.bytes = bytes) (hzs : z.cells.size = size)
    (v : Value) (n : Nat) (xs : List Value) (hsv : a.eval s = v) (hown : w.ownsRow base e size v n xs)
    (xv : Value) (m : Nat) (news : List Value) (hx : a.eval x = xv) (hs : Src P size tx xv m news w)
    (h63 : n + m ≤ maxLen) (hbytes : (n + m) * bytes ≤ 140737488355328) (hbase : base ≤ w.heap.size)
    (h : ∀ v' w', w'.ownsRow base e size v' (n + m) (xs ++ news) → w.grownBy w' v.ownBlock → (∀ k, v'.ownBlock = some k → v.ownBlock = some k ∨ w.heap.size ≤ k) → wpList P ops Q rest (a.put o.dst v') w') : wpList P ops Q (o :: rest) a w :=
  wpList_plain hgd fun _ hK => wp_append_srcZ s x t tx ho base e i z size bytes ht hi hz hsize hby hzs v n xs hsv hown xv m news hx hs h63 hbytes hbase fun v' w' h2 h3 h4 => hK _ _ (h v' w' h2 h3 h4)

/-- The types of bytes: t is []byte, e is byte. -/
structure BytesT (P : Program) (t e : TypeId) : Prop where
  under : P.underlying t = some (.slice e)
  info : ∃ i, P.info? e = some i ∧ i.zero = some (.int .u8 0) ∧ i.size = 1 ∧ i.bytes = 1
  elem : P.underlying e = some (.int .u8)

/-- 'append(dst, a, b, ..)' of bytes: the literal has just been laid. -/
theorem wpl_append_bytes {P : Program} {w : World} {ops : Array Oper} {rest : List Oper} {o : Oper} {a : Act} {Q : Exit → Act → World → Prop} {t : TypeId} (T : BytesT P t 5) (hgd : o.guard = none) (s x : Operand)
    (ho : o.op = .call { callee := .builtin .append, args := #[s, x], argTypes := #[t, t] }) (base : Nat) (bs : List UInt8) (hown : Own base w (a.eval s) bs) (hb : base ≤ w.heap.size)
    (cs : List Value) (bs' : List UInt8) (hcs : cs = bs'.map byteV) (hx : a.eval x = .slice (some ⟨w.heap.size, 0, none⟩) cs.length cs.length) (hl : bs.length + bs'.length ≤ lim)
    (h : ∀ v' w', Own base w' v' (bs ++ bs') → Below base w w' → wpList P ops Q rest (a.put o.dst v') w') : wpList P ops Q (o :: rest) a (w.alloc (.cells cs.toArray 5)) := by
  obtain ⟨i, hi, hz, hs, hby⟩ := T.info
  subst hcs
  rw [List.length_map] at hx
  refine wpl_append_src hgd s x t t ho base 5 i (.int .u8 0) 1 1 T.under hi hz hs hby rfl (a.eval s) bs.length (bs.map byteV) rfl (World.ownsRow.alloc hown _) _ bs'.length (bs'.map byteV) hx
    (Src.ofSlice _ T.under _ _ _ _ (by simp) ?_ ?_) (lim_max hl) (lim_room hl) (by simp; omega) ?_
  · intro j u hj
    rw [Addr.add_lit, (Blk.alloc_new w (bs'.map byteV) _).cell]
    simpa using hj
  · intro u hu
    obtain ⟨_, _, rfl⟩ := List.mem_map.1 hu
    rfl
  · intro v' w' hown' hg _
    refine h v' w' ?_ ?_
    · unfold Own
      simpa using hown'
    · exact ((Below.refl _ _).alloc hb _).grown hg (by simp; omega) (fun k hk => by
        have := hown.lt k hk
        omega)

/-- 'append(dst, a, b, ..)' of bytes: the literal has just been laid; block z, none of theirs, stays. -/
theorem wpl_append_bytesZ {P : Program} {w : World} {ops : Array Oper} {rest : List Oper} {o : Oper} {a : Act} {Q : Exit → Act → World → Prop} {t : TypeId} (T : BytesT P t 5) (hgd : o.guard = none) (s x : Operand)
    (ho : o.op = .call { callee := .builtin .append, args := #[s, x], argTypes := #[t, t] }) (base : Nat) (bs : List UInt8) (hown : Own base w (a.eval s) bs) (hb : base ≤ w.heap.size)
    (cs : List Value) (bs' : List UInt8) (hcs : cs = bs'.map byteV) (hx : a.eval x = .slice (some ⟨w.heap.size, 0, none⟩) cs.length cs.length) (hl : bs.length + bs'.length ≤ lim) (z : Nat) (hz : z < w.heap.size) (hvz : (a.eval s).ownBlock ≠ some z)
    (h : ∀ v' w', Own base w' v' (bs ++ bs') → Below base w w' → w'.heap[z]? = w.heap[z]? → v'.ownBlock ≠ some z → wpList P ops Q rest (a.put o.dst v') w') : wpList P ops Q (o :: rest) a (w.alloc (.cells cs.toArray 5)) := by
  obtain ⟨i, hi, hi0, hs, hby⟩ := T.info
  subst hcs
  rw [List.length_map] at hx
  refine wpl_append_srcZ hgd s x t t ho base 5 i (.int .u8 0) 1 1 T.under hi hi0 hs hby rfl (a.eval s) bs.length (bs.map byteV) rfl (World.ownsRow.alloc hown _) _ bs'.length (bs'.map byteV) hx
    (Src.ofSlice _ T.under _ _ _ _ (by simp) ?_ ?_) (lim_max hl) (lim_room hl) (by simp; omega) ?_
  · intro j u hj
    rw [Addr.add_lit, (Blk.alloc_new w (bs'.map byteV) _).cell]
    simpa using hj
  · intro u hu
    obtain ⟨_, _, rfl⟩ := List.mem_map.1 hu
    rfl
  · intro v' w' hown' hg hnew
    refine h v' w' ?_ ?_ ?_ ?_
    · unfold Own
      simpa using hown'
    · exact ((Below.refl _ _).alloc hb _).grown hg (by simp; omega) (fun k hk => by
        have := hown.lt k hk
        omega)
    · exact (hg.block z (by simp; omega) (fun e => hvz e.symm)).trans (Below.heap_alloc w _ z hz)
    · intro e
      rcases hnew z e with h1 | h1
      · exact hvz h1
      · simp at h1
        omega

/-- 'append(dst, src...)' of bytes that lie in memory (or are nil), or of a text. -/
theorem wpl_append_from {P : Program} {w : World} {ops : Array Oper} {rest : List Oper} {o : Oper} {a : Act} {Q : Exit → Act → World → Prop} {t tx : TypeId} (T : BytesT P t 5) (hgd : o.guard = none) (s x : Operand)
    (ho : o.op = .call { callee := .builtin .append, args := #[s, x], argTypes := #[t, tx] }) (base : Nat) (bs : List UInt8) (hown : Own base w (a.eval s) bs) (hb : base ≤ w.heap.size)
    (bs' : List UInt8) (hsrc : Src P 1 tx (a.eval x) bs'.length (bs'.map byteV) w) (hl : bs.length + bs'.length ≤ lim)
    (h : ∀ v' w', Own base w' v' (bs ++ bs') → Below base w w' → wpList P ops Q rest (a.put o.dst v') w') : wpList P ops Q (o :: rest) a w := by
  obtain ⟨i, hi, hz, hs, hby⟩ := T.info
  refine wpl_append_src hgd s x t tx ho base 5 i (.int .u8 0) 1 1 T.under hi hz hs hby rfl (a.eval s) bs.length (bs.map byteV) rfl hown _ bs'.length (bs'.map byteV) rfl hsrc (lim_max hl) (lim_room hl) hb ?_
  intro v' w' hown' hg _
  refine h v' w' ?_ ?_
  · unfold Own
    simpa using hown'
  · exact (Below.refl _ _).grown hg hb (fun k hk => by
        have := hown.lt k hk
        omega)

theorem Src.ofRB {P : Program} {O : List Nat} {w : World} {t : TypeId} {e : TypeId} (ht : P.underlying t = some (.slice e)) {v : Value} {bs : List UInt8} (h : RB O w v bs) : Src P 1 t v bs.length (bs.map byteV) w := by
  obtain ⟨a, cap, rfl, h1, h2, h3⟩ := h
  cases a with
  | some ad =>
    refine Src.ofSlice _ ht _ _ _ _ (by simp) ?_ ?_
    · intro j u hj
      rw [List.getElem?_map] at hj
      have hne : bs ≠ [] := by intro e; subst e; simp at hj
      obtain ⟨b, o, hab, _, hc⟩ := h3 hne
      cases hab
      cases hbj : bs[j]? with
      | none => simp [hbj] at hj
      | some c =>
        rw [hbj] at hj
        cases hj
        rw [Addr.add_lit]
        exact hc j c hbj
    · intro u hu
      obtain ⟨_, _, rfl⟩ := List.mem_map.1 hu
      rfl
  | none =>
    have hnil : bs = [] := by
      by_cases hne : bs = []
      · exact hne
      · obtain ⟨b, o, hab, _⟩ := h3 hne
        cases hab
    subst hnil
    exact Src.ofNil _ ht _

theorem Src.ofRL {P : Program} {B : Nat} {w : World} {t : TypeId} {e : TypeId} (ht : P.underlying t = some (.slice e)) {v : Value} {bs : List UInt8} (h : RL B w v bs) : Src P 1 t v bs.length (bs.map byteV) w := by
  obtain ⟨a, cap, hv, h1, h2, h3⟩ := h
  exact Src.ofRB (O := []) ht ⟨a, cap, hv, h1, h2, fun hne => by
    obtain ⟨b, o, ha, _, hc⟩ := h3 hne
    exact ⟨b, o, ha, by simp, hc⟩⟩

theorem Src.ofStr {P : Program} {w : World} {t : TypeId} (ht : P.underlying t = some .string) (s : ByteArray) : Src P 1 t (.string s) s.data.toList.length (s.data.toList.map byteV) w := by
  have h := Src.ofString (P := P) w ht s
  have e : s.data.toList.length = s.size := by rw [Array.length_toList]; rfl
  rw [e]
  exact h

theorem Own.below {base B : Nat} {w w' : World} {v : Value} {bs : List UInt8} (h : Own base w v bs) (hk : w.grownBy w' B) (hv : v.ownBlock ≠ some B) : Own base w' v bs :=
  World.ownsRow.kept h hk (.inr hv)
theorem Own.alloc {base : Nat} {w : World} {v : Value} {bs : List UInt8} (h : Own base w v bs) (o : Obj) : Own base (w.alloc o) v bs := World.ownsRow.alloc h o
theorem Own.drew {base : Nat} {w : World} {v : Value} {bs : List UInt8} (h : Own base w v bs) : Own base w.drew v bs := h
theorem Own.drewN {base : Nat} {w : World} {v : Value} {bs : List UInt8} (h : Own base w v bs) (n : Nat) : Own base (w.drewN n) v bs := h
theorem Own.nil (base : Nat) (w : World) : Own base w (.slice none 0 0) [] := World.ownsRow_nil w base _ 1
theorem Own.mono {base base' : Nat} {w : World} {v : Value} {bs : List UInt8} (h : Own base w v bs) (hb : base' ≤ base) : Own base' w v bs := by
  refine ⟨h.1, ?_⟩
  rcases h.2 with hn | ⟨g, cap, cur, hv, hbg, rest⟩
  · exact .inl hn
  · exact .inr ⟨g, cap, cur, hv, Nat.le_trans hb hbg, rest⟩
/-- What the call owns, read as bytes in memory. -/
theorem Own.rb {base : Nat} {w : World} {v : Value} {bs : List UInt8} (h : Own base w v bs) (O : List Nat) (hO : ∀ k, k ∈ O → k < base ∨ w.heap.size ≤ k) : RB O w v bs := by
  have hlt := World.ownsRow.lt h
  rcases h.2 with ⟨rfl, hn⟩ | ⟨g, cap, cur, rfl, hbg, hg, hn, hc, hcs, htake⟩
  · have : bs = [] := List.eq_nil_of_length_eq_zero hn
    subst this
    exact RB.nil _ _
  · refine ⟨some ⟨g, 0, none⟩, cap, rfl, hn, by simpa [maxLen] using hc, fun _ => ⟨g, 0, rfl, ?_, ?_⟩⟩
    · intro hgO
      have := hO g hgO
      have := hlt g rfl
      omega
    · intro i u hi
      have := World.ownsRow.cells h (g := g) rfl i (byteV u) (by simp [hi])
      rw [Addr.add_lit] at this
      exact this

end Go.Proofs.YtmpilpgabelmiaaGreatDoor

/- How what a part says lies in memory. -/
namespace Go.Proofs.YtmpilpgabelmiaaGreatDoor
open Go Go.RowKit

/-- The longest text that its count can tell. -/
def strMax (flex : Bool) : Nat := if flex then 4294967294 else 32767
def bMax (flex : Bool) : Nat := if flex then 4294967294 else 2147483647

def RepLeaf (O : List Nat) (w : World) (flex : Bool) (b o : Nat) : Leaf → GV → Prop
  | .i8, .int n => w.cell? ⟨b, o, none⟩ = some (.int .i8 n) ∧ -128 ≤ n ∧ n ≤ 127
  | .i16, .int n => w.cell? ⟨b, o, none⟩ = some (.int .i16 n) ∧ -32768 ≤ n ∧ n ≤ 32767
  | .i32, .int n => w.cell? ⟨b, o, none⟩ = some (.int .i32 n) ∧ -2147483648 ≤ n ∧ n ≤ 2147483647
  | .i64, .int n => w.cell? ⟨b, o, none⟩ = some (.int .i64 n)
  | .u16, .int n => w.cell? ⟨b, o, none⟩ = some (.int .u16 n) ∧ 0 ≤ n ∧ n ≤ 65535
  | .bool, .bool x => w.cell? ⟨b, o, none⟩ = some (.bool x)
  | .uuid, .bytes l => l.length = 16 ∧ ∀ i u, l[i]? = some u → w.cell? ⟨b, o + i, none⟩ = some (byteV u)
  | .str, .bytes l => w.cell? ⟨b, o, none⟩ = some (.string ⟨l.toArray⟩) ∧ l.length ≤ strMax flex
  | .nstr, .null => w.cell? ⟨b, o, none⟩ = some (.pointer none)
  | .nstr, .bytes l => (∃ p q, w.cell? ⟨b, o, none⟩ = some (.pointer (some ⟨p, q, none⟩)) ∧ p ∉ O ∧ w.cell? ⟨p, q, none⟩ = some (.string ⟨l.toArray⟩)) ∧ l.length ≤ strMax flex
  | .nstrFrom _, .null => w.cell? ⟨b, o, none⟩ = some (.pointer none)
  | .nstrFrom _, .bytes l => (∃ p q, w.cell? ⟨b, o, none⟩ = some (.pointer (some ⟨p, q, none⟩)) ∧ p ∉ O ∧ w.cell? ⟨p, q, none⟩ = some (.string ⟨l.toArray⟩)) ∧ l.length ≤ strMax flex
  | .bytes, .bytes l => (∃ v, w.cell? ⟨b, o, none⟩ = some v ∧ RB O w v l) ∧ l.length ≤ bMax flex
  | _, _ => False

/-- A tag, laid into a list of tags by rising numbers: the last one counts. -/
def tagIns (k : Nat) (v : List UInt8) : List (Nat × List UInt8) → List (Nat × List UInt8)
  | [] => [(k, v)]
  | (j, u) :: r => if k < j then (k, v) :: (j, u) :: r else if k = j then (k, v) :: r else (j, u) :: tagIns k v r
def tagSort (l : List (Nat × List UInt8)) : List (Nat × List UInt8) := l.foldl (fun acc t => tagIns t.1 t.2 acc) []

/-- Tags in memory: none, or a map of which the entries are told in the order in which they came. -/
def RepTags (O : List Nat) (w : World) (b o : Nat) (l : List (Nat × List UInt8)) : Prop :=
  (l = [] ∧ w.cell? ⟨b, o, none⟩ = some (.map none)) ∨
  ∃ (r : Nat) (es : Array MapEntry) (kvs : List (Nat × List UInt8)), w.cell? ⟨b, o, none⟩ = some (.map (some r)) ∧ r ∉ O ∧ w.heap[r]? = some (.map es es.size) ∧ es.size = kvs.length ∧
    (∀ (i : Nat) (kv : Nat × List UInt8), kvs[i]? = some kv → ∃ e : MapEntry, es[i]? = some e ∧ e.key = .int .u32 (kv.1 : Int) ∧ kv.1 ≤ 4294967295 ∧ e.born = i ∧ RB O w e.val kv.2 ∧ kv.2.length ≤ 2147483646) ∧
    (kvs.map (·.1)).Nodup ∧ l = tagSort kvs ∧ kvs.length ≤ 2147483646

/-- Which tags a reading lets in. -/
abbrev RTags := List Nat → World → Nat → Nat → List (Nat × List UInt8) → Prop
/-- No tags at all. -/
def noTags : RTags := fun _ w b o l => l = [] ∧ w.cell? ⟨b, o, none⟩ = some (.map none)

def Rep (RT : RTags) (O : List Nat) (w : World) (ver : Int) (flex : Bool) : Sch → Nat → Nat → GV → Prop
  | .leaf k, b, o, v => RepLeaf O w flex b o k v
  | .list nul esz e, b, o, .list l => ∃ a cap, w.cell? ⟨b, o, none⟩ = some (.slice a l.length cap) ∧ l.length ≤ 2147483647 ∧ (nul.isSome = true → a.isSome = true) ∧
      (l ≠ [] → ∃ p q, a = some ⟨p, q, none⟩ ∧ p ∉ O ∧ p < w.heap.size ∧ ∀ i v, l[i]? = some v → Rep RT O w ver flex e p (q + i * esz) v)
  | .list nul _ _, b, o, .null => nul.isSome = true ∧ w.cell? ⟨b, o, none⟩ = some (.slice none 0 0)
  | .opt _, b, o, .null => w.cell? ⟨b, o, none⟩ = some (.pointer none)
  | .opt e, b, o, v => ∃ p q, w.cell? ⟨b, o, none⟩ = some (.pointer (some ⟨p, q, none⟩)) ∧ p ∉ O ∧ p < w.heap.size ∧ Rep RT O w ver flex e p q v
  | .tags off, b, o, .tags l => RT O w b (o + off) l
  | .done, _, _, .unit => True
  | .cons off lo hi f rest, b, o, .cons v vs => (hasV lo hi ver = true → Rep RT O w ver flex f b (o + off) v) ∧ Rep RT O w ver flex rest b o vs
  | .ktag off d f rest, b, o, .cons v vs => Rep RT O w ver flex f b (o + off) v ∧ Rep RT O w ver flex rest b o vs ∧ kn (.ktag off d f rest) (.cons v vs) ≤ 4294967295
  | _, _, _, _ => False
end Go.Proofs.YtmpilpgabelmiaaGreatDoor

/- What is read of a part: plain functions over bytes. No program in sight. -/
namespace Go.Proofs.YtmpilpgabelmiaaGreatDoor

/-- A reading: what it finds at the front, and what is left; none: too little. -/
abbrev Pr (α : Type) := List UInt8 → Option (α × List UInt8)
def Pr.bind {α β : Type} (p : Pr α) (f : α → Pr β) : Pr β := fun bs => match p bs with
  | none => none
  | some (v, r) => f v r
def Pr.pure {α : Type} (v : α) : Pr α := fun bs => some (v, bs)
def Pr.fail {α : Type} : Pr α := fun _ => none
def rdTake (n : Nat) : Pr (List UInt8) := fun bs => if n ≤ bs.length then some (bs.take n, bs.drop n) else none
def beNat (l : List UInt8) : Nat := l.foldl (fun a b => a * 256 + b.toNat) 0
/-- A number as a signed one, m being half of all. -/
def sg (m n : Int) : Int := (n + m) % (2 * m) - m
def rdNat (k : Nat) : Pr Nat := (rdTake k).bind fun l => .pure (beNat l)
def rdInt (k : Nat) (m : Int) : Pr Int := (rdNat k).bind fun n => .pure (sg m n)
/-- A number in groups of seven bits, of at most k + 1 octets: the last one at most 15. -/
def rdUvF : Nat → Pr Nat
  | 0 => fun bs => match bs with
    | [] => none
    | b :: r => if b.toNat ≤ 15 then some (b.toNat, r) else none
  | k + 1 => fun bs => match bs with
    | [] => none
    | b :: r => if b.toNat < 128 then some (b.toNat, r) else match rdUvF k r with
      | none => none
      | some (n, r') => some (b.toNat % 128 + 128 * n, r')
def rdUv : Pr Nat := rdUvF 4
def rdStr (flex : Bool) : Pr GV := if flex then rdUv.bind fun n => if n = 0 then .fail else (rdTake (n - 1)).bind fun s => .pure (.bytes s)
  else (rdInt 2 32768).bind fun n => if n < 0 then .fail else (rdTake n.toNat).bind fun s => .pure (.bytes s)
def rdNStr (flex : Bool) : Pr GV := if flex then rdUv.bind fun n => if n = 0 then .pure .null else (rdTake (n - 1)).bind fun s => .pure (.bytes s)
  else (rdInt 2 32768).bind fun n => if n < 0 then .pure .null else (rdTake n.toNat).bind fun s => .pure (.bytes s)
def rdBytes (flex : Bool) : Pr GV := if flex then rdUv.bind fun n => if n = 0 then .pure (.bytes []) else (rdTake (n - 1)).bind fun s => .pure (.bytes s)
  else (rdInt 4 2147483648).bind fun n => if n = -1 then .pure (.bytes []) else if n < 0 then .fail else (rdTake n.toNat).bind fun s => .pure (.bytes s)
def rdLeaf (ver : Int) (flex : Bool) : Leaf → Pr GV
  | .i8 => (rdInt 1 128).bind fun n => .pure (.int n)
  | .i16 => (rdInt 2 32768).bind fun n => .pure (.int n)
  | .i32 => (rdInt 4 2147483648).bind fun n => .pure (.int n)
  | .i64 => (rdInt 8 9223372036854775808).bind fun n => .pure (.int n)
  | .u16 => (rdNat 2).bind fun n => .pure (.int n)
  | .bool => (rdNat 1).bind fun n => .pure (.bool (decide (n ≠ 0)))
  | .uuid => (rdTake 16).bind fun s => .pure (.bytes s)
  | .str => rdStr flex
  | .nstr => rdNStr flex
  | .nstrFrom m => if ver < m then rdStr flex else rdNStr flex
  | .bytes => rdBytes flex
/-- A count of things: at most as many as octets are left. -/
def rdCount (flex : Bool) : Pr Int := if flex then rdUv.bind fun n => .pure (sg 2147483648 (sg 2147483648 n - 1)) else rdInt 4 2147483648
def rdLen (flex : Bool) : Pr Int := (rdCount flex).bind fun r bs => if (bs.length : Int) < r then none else some (r, bs)
def rdMany {α : Type} (p : Pr α) : Nat → Pr (List α)
  | 0 => .pure []
  | n + 1 => p.bind fun v => (rdMany p n).bind fun l => .pure (v :: l)
def rdTag1 : Pr (Nat × List UInt8) := rdUv.bind fun k => rdUv.bind fun n => (rdTake n).bind fun v => .pure (k, v)
def rdTagsRaw : Pr (List (Nat × List UInt8)) := rdUv.bind fun n => rdMany rdTag1 n
def rdTags (flex : Bool) : Pr GV := if flex then rdTagsRaw.bind fun l => .pure (.tags (tagSort l)) else .pure (.tags [])
def nullAt (nul : Option Int) (ver : Int) : Bool := match nul with
  | none => false
  | some m => decide (m ≤ ver)
/-- The value of a part's end: its known tags' fields, its unknown tags. -/
def kval : List GV → List (Nat × List UInt8) → GV
  | [], us => .tags us
  | v :: vs, us => .cons v (kval vs us)
/-- The tags that were read, one by one: a known one's octets are read by its kind, an unknown one is kept. -/
def kstep (ks : List (GV × Pr GV)) (s : List GV × List (Nat × List UInt8)) (t : Nat × List UInt8) : Option (List GV × List (Nat × List UInt8)) := match ks[t.1]? with
  | none => some (s.1, tagIns t.1 t.2 s.2)
  | some q => (q.2 t.2).map fun x => (s.1.set t.1 x.1, s.2)
def kfold (ks : List (GV × Pr GV)) : List (Nat × List UInt8) → List GV × List (Nat × List UInt8) → Option (List GV × List (Nat × List UInt8))
  | [], s => some s
  | t :: l, s => (kstep ks s t).bind (kfold ks l)
def rdKn (flex : Bool) (ks : List (GV × Pr GV)) : Pr GV := if flex then rdTagsRaw.bind fun l bs => (kfold ks l (ks.map (·.1), [])).map fun q => (kval q.1 q.2, bs) else .pure (kval (ks.map (·.1)) [])
mutual
def rd (ver : Int) (flex : Bool) : Sch → Pr GV
  | .leaf k => rdLeaf ver flex k
  | .list nul _ e => (rdLen flex).bind fun n => if n < 0 ∧ nullAt nul ver = true then .pure .null else (rdMany (rd ver flex e) n.toNat).bind fun l => .pure (.list l)
  | .opt e => (rdInt 1 128).bind fun n => if n = -1 then .pure .null else rd ver flex e
  | .done => .pure .unit
  | .tags _ => rdTags flex
  | .cons _ lo hi f rest => if hasV lo hi ver then (rd ver flex f).bind fun v => (rd ver flex rest).bind fun vs => .pure (.cons v vs) else (rd ver flex rest).bind fun vs => .pure (.cons .unit vs)
  | .ktag _ d f rest => rdKn flex ((dfl f d, rd ver flex f) :: kp ver flex rest)
/-- The known tags' fields: their defaults, how they are read. -/
def kp (ver : Int) (flex : Bool) : Sch → List (GV × Pr GV)
  | .ktag _ d f rest => (dfl f d, rd ver flex f) :: kp ver flex rest
  | _ => []
end

/-! More behind what is read does not turn it. -/
def Mono {α : Type} (p : Pr α) : Prop := ∀ bs v r x, p bs = some (v, r) → p (bs ++ x) = some (v, r ++ x)
theorem bind_some {α β : Type} {p : Pr α} {f : α → Pr β} {bs : List UInt8} {u : β} {r : List UInt8} (h : p.bind f bs = some (u, r)) : ∃ v r', p bs = some (v, r') ∧ f v r' = some (u, r) := by
  unfold Pr.bind at h
  cases hp : p bs with
  | none => rw [hp] at h; cases h
  | some q =>
    obtain ⟨v, r'⟩ := q
    rw [hp] at h
    exact ⟨v, r', rfl, h⟩
theorem bind_eq {α β : Type} {p : Pr α} {f : α → Pr β} {bs : List UInt8} {v : α} {r : List UInt8} (h : p bs = some (v, r)) : p.bind f bs = f v r := by
  unfold Pr.bind
  rw [h]
theorem bind_none {α β : Type} {p : Pr α} {f : α → Pr β} {bs : List UInt8} (h : p bs = none) : p.bind f bs = none := by
  unfold Pr.bind
  rw [h]
theorem Mono.bind {α β : Type} {p : Pr α} {f : α → Pr β} (h : Mono p) (k : ∀ v, Mono (f v)) : Mono (p.bind f) := by
  intro bs u r x hu
  obtain ⟨v, r', h1, h2⟩ := bind_some hu
  rw [bind_eq (h _ _ _ x h1)]
  exact k v _ _ _ x h2
theorem Mono.pure {α : Type} (v : α) : Mono (Pr.pure v) := by
  intro bs u r x h
  simp only [Pr.pure, Option.some.injEq, Prod.mk.injEq] at h ⊢
  exact ⟨h.1, by rw [h.2]⟩
theorem Mono.fail {α : Type} : Mono (Pr.fail (α := α)) := fun _ _ _ _ h => by cases h
theorem Mono.ite {α : Type} {c : Prop} [Decidable c] {p q : Pr α} (h : Mono p) (k : Mono q) : Mono (if c then p else q) := by
  split
  · exact h
  · exact k
theorem Mono.take (n : Nat) : Mono (rdTake n) := by
  intro bs v r x h
  unfold rdTake at h ⊢
  split at h
  · rename_i hn
    simp only [Option.some.injEq, Prod.mk.injEq] at h
    obtain ⟨rfl, rfl⟩ := h
    rw [if_pos (by simp; omega), List.take_append_of_le_length hn, List.drop_append_of_le_length hn]
  · cases h
theorem Mono.nat (k : Nat) : Mono (rdNat k) := (Mono.take k).bind fun _ => .pure _
theorem Mono.int (k : Nat) (m : Int) : Mono (rdInt k m) := (Mono.nat k).bind fun _ => .pure _
theorem Mono.uvF : ∀ k, Mono (rdUvF k)
  | 0 => by
    intro bs v r x h
    cases bs with
    | nil => cases h
    | cons b l =>
      simp only [rdUvF, List.cons_append] at h ⊢
      split at h
      · rename_i hb
        rw [if_pos hb]
        simp only [Option.some.injEq, Prod.mk.injEq] at h ⊢
        exact ⟨h.1, by rw [h.2]⟩
      · cases h
  | k + 1 => by
    intro bs v r x h
    cases bs with
    | nil => cases h
    | cons b l =>
      simp only [rdUvF, List.cons_append] at h ⊢
      split at h
      · rename_i hb
        rw [if_pos hb]
        simp only [Option.some.injEq, Prod.mk.injEq] at h ⊢
        exact ⟨h.1, by rw [h.2]⟩
      · rename_i hb
        rw [if_neg hb]
        cases hr : rdUvF k l with
        | none => rw [hr] at h; cases h
        | some q =>
          obtain ⟨n, r'⟩ := q
          rw [hr] at h
          rw [Mono.uvF k _ _ _ x hr]
          simp only [Option.some.injEq, Prod.mk.injEq] at h ⊢
          exact ⟨h.1, by rw [h.2]⟩
theorem Mono.uv : Mono rdUv := Mono.uvF 4
theorem Mono.str (flex : Bool) : Mono (rdStr flex) := by
  unfold rdStr
  exact .ite (Mono.uv.bind fun n => .ite .fail ((Mono.take _).bind fun _ => .pure _)) ((Mono.int _ _).bind fun n => .ite .fail ((Mono.take _).bind fun _ => .pure _))
theorem Mono.nstr (flex : Bool) : Mono (rdNStr flex) := by
  unfold rdNStr
  exact .ite (Mono.uv.bind fun n => .ite (.pure _) ((Mono.take _).bind fun _ => .pure _)) ((Mono.int _ _).bind fun n => .ite (.pure _) ((Mono.take _).bind fun _ => .pure _))
theorem Mono.bytes (flex : Bool) : Mono (rdBytes flex) := by
  unfold rdBytes
  exact .ite (Mono.uv.bind fun n => .ite (.pure _) ((Mono.take _).bind fun _ => .pure _)) ((Mono.int _ _).bind fun n => .ite (.pure _) (.ite .fail ((Mono.take _).bind fun _ => .pure _)))
theorem Mono.leaf (ver : Int) (flex : Bool) (k : Leaf) : Mono (rdLeaf ver flex k) := by
  cases k
  · exact (Mono.int _ _).bind fun _ => .pure _
  · exact (Mono.int _ _).bind fun _ => .pure _
  · exact (Mono.int _ _).bind fun _ => .pure _
  · exact (Mono.int _ _).bind fun _ => .pure _
  · exact (Mono.nat _).bind fun _ => .pure _
  · exact (Mono.nat _).bind fun _ => .pure _
  · exact (Mono.take _).bind fun _ => .pure _
  · exact Mono.str flex
  · exact Mono.nstr flex
  · exact Mono.bytes flex
  · exact .ite (Mono.str flex) (Mono.nstr flex)
theorem Mono.count (flex : Bool) : Mono (rdCount flex) := by
  unfold rdCount
  exact .ite (Mono.uv.bind fun _ => .pure _) (Mono.int _ _)
theorem Mono.len (flex : Bool) : Mono (rdLen flex) := by
  refine (Mono.count flex).bind fun n => ?_
  intro bs v r x h
  simp only at h ⊢
  split at h
  · cases h
  · rename_i hn
    rw [if_neg (by simp; omega)]
    simp only [Option.some.injEq, Prod.mk.injEq] at h ⊢
    exact ⟨h.1, by rw [h.2]⟩
theorem Mono.many {α : Type} {p : Pr α} (h : Mono p) : ∀ n, Mono (rdMany p n)
  | 0 => .pure _
  | n + 1 => h.bind fun _ => (Mono.many h n).bind fun _ => .pure _
theorem Mono.tagsRaw : Mono rdTagsRaw := Mono.uv.bind fun _ => Mono.many (Mono.uv.bind fun _ => Mono.uv.bind fun _ => (Mono.take _).bind fun _ => .pure _) _
theorem Mono.tags (flex : Bool) : Mono (rdTags flex) := by
  unfold rdTags
  exact .ite (Mono.tagsRaw.bind fun _ => .pure _) (.pure _)
theorem Mono.ktags (flex : Bool) (ks : List (GV × Pr GV)) : Mono (rdKn flex ks) := by
  unfold rdKn
  refine .ite (Mono.tagsRaw.bind fun l => ?_) (.pure _)
  intro bs v r x h
  obtain ⟨q, hq, h⟩ := Option.map_eq_some_iff.1 h
  cases h
  rw [hq]
  rfl
theorem Mono.rd (ver : Int) (flex : Bool) : ∀ s, Mono (rd ver flex s)
  | .leaf k => by unfold Proofs.YtmpilpgabelmiaaGreatDoor.rd; exact .leaf ver flex k
  | .list nul z e => by unfold Proofs.YtmpilpgabelmiaaGreatDoor.rd; exact (Mono.len flex).bind fun n => .ite (.pure _) ((Mono.many (Mono.rd ver flex e) _).bind fun _ => .pure _)
  | .opt e => by unfold Proofs.YtmpilpgabelmiaaGreatDoor.rd; exact (Mono.int _ _).bind fun n => .ite (.pure _) (Mono.rd ver flex e)
  | .done => by unfold Proofs.YtmpilpgabelmiaaGreatDoor.rd; exact .pure _
  | .tags _ => by unfold Proofs.YtmpilpgabelmiaaGreatDoor.rd; exact .tags flex
  | .cons o lo hi f r => by
    unfold Proofs.YtmpilpgabelmiaaGreatDoor.rd
    exact .ite ((Mono.rd ver flex f).bind fun _ => (Mono.rd ver flex r).bind fun _ => .pure _) ((Mono.rd ver flex r).bind fun _ => .pure _)
  | .ktag _ d f r => by
    unfold Proofs.YtmpilpgabelmiaaGreatDoor.rd
    exact Mono.ktags flex _
end Go.Proofs.YtmpilpgabelmiaaGreatDoor

/- Single operations over a frame that is a variable: what each asks and what it leaves. Any program. -/
namespace Go.Proofs.YtmpilpgabelmiaaGreatDoor
open Go Go.RowKit

/-- What a slot holds. -/
def aget (a : Act) (i : Nat) : Value := a.tmps.getD i undef
theorem aget_eval (a : Act) (i : Nat) : a.eval (.tmp i) = aget a i := rfl
theorem aget_put (a : Act) (d : Nat) (v : Value) (i : Nat) : aget (a.put (some d) v) i = if d = i ∧ d < a.tmps.size then v else aget a i := by
  unfold aget Act.put
  simp only [Array.getD_eq_getD_getElem?, Array.getElem?_setIfInBounds]
  by_cases h : d = i
  · subst h
    by_cases h2 : d < a.tmps.size <;> simp [h2]
  · simp [h]
theorem aget_put_same (a : Act) (d : Nat) (v : Value) (h : d < a.tmps.size) : aget (a.put (some d) v) d = v := by simp [aget_put, h]
theorem aget_put_other (a : Act) (d : Nat) (v : Value) (i : Nat) (h : d ≠ i) : aget (a.put (some d) v) i = aget a i := by simp [aget_put, h]
theorem size_put (a : Act) (d : Option Nat) (v : Value) : (a.put d v).tmps.size = a.tmps.size := by cases d <;> simp [Act.put]
theorem defers_put (a : Act) (d : Option Nat) (v : Value) : (a.put d v).defers = a.defers := by cases d <;> rfl

/-- The slots that may be written: the named ones from lo on, and the nameless ones (from N on) from t on; slot x beside them. All else is as it was. -/
structure Fr (N lo t x : Nat) (a a' : Act) : Prop where
  size : a'.tmps.size = a.tmps.size
  defers : a'.defers = a.defers
  same : ∀ i, i ≠ x → (i < lo ∨ (N ≤ i ∧ i < t)) → aget a' i = aget a i
theorem Fr.refl (N lo t x : Nat) (a : Act) : Fr N lo t x a a := ⟨rfl, rfl, fun _ _ _ => rfl⟩
theorem Fr.trans {N lo t x : Nat} {a b c : Act} (h : Fr N lo t x a b) (k : Fr N lo t x b c) : Fr N lo t x a c :=
  ⟨k.size.trans h.size, k.defers.trans h.defers, fun i hx hi => (k.same i hx hi).trans (h.same i hx hi)⟩
theorem Fr.mono {N lo t lo' t' x : Nat} {a b : Act} (h : Fr N lo t x a b) (h1 : lo' ≤ lo) (h2 : t' ≤ t) : Fr N lo' t' x a b :=
  ⟨h.size, h.defers, fun i hx hi => h.same i hx (by omega)⟩
theorem Fr.put {N lo t x : Nat} {a b : Act} (h : Fr N lo t x a b) (d : Nat) (v : Value) (hd : d = x ∨ (lo ≤ d ∧ (d < N ∨ t ≤ d))) : Fr N lo t x a (b.put (some d) v) :=
  ⟨(size_put _ _ _).trans h.size, (defers_put _ _ _).trans h.defers, fun i hx hi => (aget_put_other _ _ _ _ (by omega)).trans (h.same i hx hi)⟩

section ops
variable {P : Program} {w : World} {ops : Array Oper} {rest : List Oper} {a : Act} {Q : Exit → Act → World → Prop} {d : Nat} {ty : TypeId} {pos : String} {af : Array Edge}

theorem wl_value {o : Oper} {v : Value} {w' : World} (hg : o.guard = none) (hr : (execOp a.eval o).run P w = .ok (.value v) w') (h : wpList P ops Q rest (a.put o.dst v) w') : wpList P ops Q (o :: rest) a w :=
  wpList_plain hg fun _ hK => by
    unfold Oper.wp
    rw [hr]
    exact hK _ _ h
theorem wl_skip {o : Oper} {w' : World} (hg : o.guard = none) (hr : (execOp a.eval o).run P w = .ok .skip w') (h : wpList P ops Q rest (a.put o.dst undef) w') : wpList P ops Q (o :: rest) a w :=
  wpList_plain hg fun _ hK => by
    unfold Oper.wp
    rw [hr]
    exact hK _ _ h
theorem wl_store {U : Nat} {x y : Operand} {w' : World} (hr : (Instr.storeAt U (a.eval x) (a.eval y)).run P w = .ok () w') (h : wpList P ops Q rest a w') : wpList P ops Q (⟨none, .store U x y, ty, pos, af, none⟩ :: rest) a w :=
  wl_skip (w' := w') rfl (by simp [execOp, hr]) h
theorem wl_move {s : Nat} {v : Value} (hs : aget a s = v) (h : wpList P ops Q rest (a.put (some d) v) w) : wpList P ops Q (⟨some d, .move (.tmp s), ty, pos, af, none⟩ :: rest) a w :=
  wl_value rfl (by simp [execOp, aget_eval, hs]) h
theorem wl_assign {s : Nat} {v : Value} (hs : aget a s = v) (h : wpList P ops Q rest (a.put (some d) v) w) : wpList P ops Q (⟨some d, .assign (.tmp s), ty, pos, af, none⟩ :: rest) a w :=
  wl_value rfl (by simp [execOp, aget_eval, hs]) h
theorem wl_move_c {v : Value} (h : wpList P ops Q rest (a.put (some d) v) w) : wpList P ops Q (⟨some d, .move (.const v), ty, pos, af, none⟩ :: rest) a w :=
  wl_value rfl (by simp [execOp, Act.eval]) h
theorem wl_assign_c {v : Value} (h : wpList P ops Q rest (a.put (some d) v) w) : wpList P ops Q (⟨some d, .assign (.const v), ty, pos, af, none⟩ :: rest) a w :=
  wl_value rfl (by simp [execOp, Act.eval]) h
theorem wl_nilCheck {s : Nat} {ad : Addr} (hs : aget a s = .pointer (some ad)) (h : wpList P ops Q rest (a.put (some d) (.pointer (some ad))) w) : wpList P ops Q (⟨some d, .nilCheck (.tmp s), ty, pos, af, none⟩ :: rest) a w :=
  wl_value rfl (by simp [execOp, aget_eval, hs]) h

/-- Field k of the struct T lies off cells behind its address. -/
def FieldAt (P : Program) (T k off : Nat) : Prop := ∀ (ad : Addr) (w : World), (Instr.fieldAt T (.pointer (some ad)) k).run P w = .ok (.pointer (some (ad.add off))) w
theorem fieldAt_of {P : Program} {T k : Nat} {fs : Array Field} {f : Field} {i : TypeInfo} (h1 : P.underlying T = some (.struct fs)) (h2 : fs[k]? = some f) (h3 : P.info? f.type = some i) (h4 : i.size ≠ 0) : FieldAt P T k f.offset := by
  intro ad w
  simp [Instr.fieldAt, run_underlying h1, h2, Instr.sureAddr, fieldPlace, sizeOf, typeInfo, h3, h4]
theorem fieldAt_mk {P : Program} {T k off ft : Nat} {fs : Array Field} {i : TypeInfo} (h1 : P.underlying T = some (.struct fs)) (h2 : (fs[k]?).map (fun f => (f.offset, f.type)) = some (off, ft)) (h3 : P.info? ft = some i) (h4 : i.size ≠ 0) : FieldAt P T k off := by
  cases hf : fs[k]? with
  | none => simp [hf] at h2
  | some f =>
    simp [hf] at h2
    obtain ⟨rfl, rfl⟩ := h2
    exact fieldAt_of h1 hf h3 h4
theorem wl_fieldAddr {T k off s : Nat} (hf : FieldAt P T k off) {ad : Addr} (hs : aget a s = .pointer (some ad)) (h : wpList P ops Q rest (a.put (some d) (.pointer (some (ad.add off)))) w) :
    wpList P ops Q (⟨some d, .fieldAddr T (.tmp s) k, ty, pos, af, none⟩ :: rest) a w :=
  wl_value (v := .pointer (some (ad.add off))) (w' := w) rfl (by simp [execOp, aget_eval, hs, hf ad w]) h

/-- A variable of type U is one cell. -/
def OneCell (P : Program) (U : Nat) : Prop := (∀ w, (isAgg U).run P w = .ok false w) ∧ ∃ i, P.info? U = some i ∧ i.size = 1
theorem run_load_one {U : Nat} (hU : OneCell P U) {ad : Addr} {x : Value} (hc : w.cell? ad = some x) : (Instr.loadAt U (.pointer (some ad))).run P w = .ok x w := by
  simp [Instr.loadAt, Instr.sureAddr, loadVar, hU.1 w, hc]
theorem wl_load {U s : Nat} (hU : OneCell P U) {ad : Addr} {x : Value} (hs : aget a s = .pointer (some ad)) (hc : w.cell? ad = some x) (h : wpList P ops Q rest (a.put (some d) x) w) :
    wpList P ops Q (⟨some d, .load U (.tmp s), ty, pos, af, none⟩ :: rest) a w :=
  wl_value (v := x) (w' := w) rfl (by simp [execOp, aget_eval, hs, run_load_one hU hc]) h

/-- Function f has a body: a call enters it. -/
def Enters (P : Program) (f : Nat) : Prop := ∀ (args : Array Value) (w : World), (callFunc f args).run P w = .ok (.enter f args) w
theorem wl_call {f : Nat} {args : Array Operand} {at_ : Array TypeId} {R : Ending → World → Prop} (he : Enters P f) (hc : Calls P f (args.map a.eval) w R)
    (h : ∀ e w', R e w' → ∃ v, e = .returned v ∧ wpList P ops Q rest (a.put (some d) v) w') : wpList P ops Q (⟨some d, .call { callee := .value (.func f), args := args, argTypes := at_ }, ty, pos, af, none⟩ :: rest) a w := by
  refine wpList_plain rfl fun K hK => ?_
  have hr : (execOp a.eval ⟨some d, .call { callee := .value (.func f), args := args, argTypes := at_ }, ty, pos, af, none⟩).run P w = .ok (.enter f (args.map a.eval)) w := by
    simp [execOp, resolve, Act.eval, Deferred.ofValue, invoke, he (args.map a.eval) w]
  unfold Oper.wp
  rw [hr]
  refine hc.mono fun e w' hR => ?_
  obtain ⟨v, rfl, hw⟩ := h e w' hR
  exact hK _ _ hw
theorem wl_len_slice {t s : Nat} {e : Nat} (ht : P.underlying t = some (.slice e)) {ad : Option Addr} {n c : Nat} (hs : aget a s = .slice ad n c) (h : wpList P ops Q rest (a.put (some d) (.int .i64 n)) w) :
    wpList P ops Q (⟨some d, .call { callee := .builtin .len, args := #[.tmp s], argTypes := #[t] }, ty, pos, af, none⟩ :: rest) a w :=
  wl_value (v := .int .i64 n) (w' := w) rfl (by simp [execOp, resolve, invoke, builtin, Builtin.len_, aget_eval, hs, run_underlying ht, goInt]) h
theorem wl_bin {op : BinOp} {t u s : Nat} {x y : Value} {r : Value} (hs : aget a s = x) (hg : eqGuard op t (.tmp s) (.const y) x y = pure ()) (hr : (binOp op t x y).run P w = .ok r w) (h : wpList P ops Q rest (a.put (some d) r) w) :
    wpList P ops Q (⟨some d, .binOp op t (.tmp s) (.const y) u, ty, pos, af, none⟩ :: rest) a w :=
  wl_value (v := r) (w' := w) rfl (by
    have e1 : a.eval (.tmp s) = x := hs
    have e2 : a.eval (.const y) = y := rfl
    simp [execOp, e1, e2, hg, hr]) h
theorem wl_bin2 {op : BinOp} {t u s s' : Nat} {x y : Value} {r : Value} (hs : aget a s = x) (hs' : aget a s' = y) (hg : eqGuard op t (.tmp s) (.tmp s') x y = pure ()) (hr : (binOp op t x y).run P w = .ok r w) (h : wpList P ops Q rest (a.put (some d) r) w) :
    wpList P ops Q (⟨some d, .binOp op t (.tmp s) (.tmp s') u, ty, pos, af, none⟩ :: rest) a w :=
  wl_value (v := r) (w' := w) rfl (by
    have e1 : a.eval (.tmp s) = x := hs
    have e2 : a.eval (.tmp s') = y := hs'
    simp [execOp, e1, e2, hg, hr]) h
theorem wl_index {t e s s' esz : Nat} (ht : P.underlying t = some (.slice e)) (he : ∃ i, P.info? e = some i ∧ i.size = esz) {ad : Addr} {n c : Nat} {k : Nat} (hk : k < n) (hs : aget a s = .slice (some ad) n c) (hs' : aget a s' = .int .i64 k)
    (h : wpList P ops Q rest (a.put (some d) (.pointer (some (ad.add (k * esz))))) w) : wpList P ops Q (⟨some d, .indexAddr t (.tmp s) (.tmp s'), ty, pos, af, none⟩ :: rest) a w := by
  obtain ⟨i, hi, rfl⟩ := he
  refine wl_value (v := .pointer (some (ad.add (k * i.size)))) (w' := w) rfl ?_ h
  have h1 : (0 : Int) ≤ k ∧ (k : Int) < n := by omega
  simp [execOp, aget_eval, hs, hs', Instr.indexAt, asIntOf, run_underlying ht, sizeOf, typeInfo, hi, h1]
  exact fun hx => absurd hx (by omega)

end ops
end Go.Proofs.YtmpilpgabelmiaaGreatDoor

/- Whole regions of the generated code, over a frame that is a variable. Any program. -/
namespace Go.Proofs.YtmpilpgabelmiaaGreatDoor
open Go Go.RowKit

section
variable {P : Program} {w : World} {a : Act} {Q : Exit → Act → World → Prop}

theorem wp_reg {r : Nat} {l : List Oper} (h : wpList P l.toArray Q l a w) : (Code.region r l.toArray false).wp P Q a w := wp_region_lit h

/-- 'v := s.F', a field of one cell. -/
theorem reg_load {N nt lo t s v t1 T k U off r x0 ty1 ty2 ty3 ty4 ty5 : Nat} {p1 p2 p3 p4 p5 : String} {e1 e2 e3 e4 e5 : Array Edge} {ad : Addr} {x : Value}
    (hT : FieldAt P T k off) (hU : OneCell P U) (hN : a.tmps.size = nt) (hs : aget a s = .pointer (some ad)) (hc : w.cell? (ad.add off) = some x) (hd : N ≤ t ∧ t ≤ t1 ∧ t1 + 3 < nt ∧ lo ≤ v ∧ v < N)
    (h : ∀ a', Fr N lo t x0 a a' → aget a' v = x → Q .normal a' w) :
    (Code.region r #[⟨some t1, .move (.tmp s), ty1, p1, e1, none⟩, ⟨some (t1 + 1), .nilCheck (.tmp t1), ty2, p2, e2, none⟩, ⟨some (t1 + 2), .fieldAddr T (.tmp (t1 + 1)) k, ty3, p3, e3, none⟩,
      ⟨some (t1 + 3), .load U (.tmp (t1 + 2)), ty4, p4, e4, none⟩, ⟨some v, .assign (.tmp (t1 + 3)), ty5, p5, e5, none⟩] false).wp P Q a w := by
  obtain ⟨h1, h2, h3, h4, h5⟩ := hd
  refine wp_reg ?_
  refine wl_move hs ?_
  refine wl_nilCheck (aget_put_same _ _ _ (by (first | rw [hN] | simp only [size_put, hN]); omega)) ?_
  refine wl_fieldAddr hT (aget_put_same _ _ _ (by (first | rw [hN] | simp only [size_put, hN]); omega)) ?_
  refine wl_load hU (aget_put_same _ _ _ (by (first | rw [hN] | simp only [size_put, hN]); omega)) hc ?_
  refine wl_assign (aget_put_same _ _ _ (by (first | rw [hN] | simp only [size_put, hN]); omega)) ?_
  refine wpList_nil (h _ (((((Fr.refl N lo t x0 a).put _ _ (by omega)).put _ _ (by omega)).put _ _ (by omega)).put _ _ (by omega) |>.put _ _ (by omega)) (aget_put_same _ _ _ (by (first | rw [hN] | simp only [size_put, hN]); omega)))

/-- 'v := &s.F'. -/
theorem reg_addr {N nt lo t s v t1 T k off r x0 ty1 ty2 ty3 ty4 : Nat} {p1 p2 p3 p4 : String} {e1 e2 e3 e4 : Array Edge} {ad : Addr}
    (hT : FieldAt P T k off) (hN : a.tmps.size = nt) (hs : aget a s = .pointer (some ad)) (hd : N ≤ t ∧ t ≤ t1 ∧ t1 + 2 < nt ∧ lo ≤ v ∧ v < N)
    (h : ∀ a', Fr N lo t x0 a a' → aget a' v = .pointer (some (ad.add off)) → Q .normal a' w) :
    (Code.region r #[⟨some t1, .move (.tmp s), ty1, p1, e1, none⟩, ⟨some (t1 + 1), .nilCheck (.tmp t1), ty2, p2, e2, none⟩, ⟨some (t1 + 2), .fieldAddr T (.tmp (t1 + 1)) k, ty3, p3, e3, none⟩,
      ⟨some v, .assign (.tmp (t1 + 2)), ty4, p4, e4, none⟩] false).wp P Q a w := by
  obtain ⟨h1, h2, h3, h4, h5⟩ := hd
  refine wp_reg ?_
  refine wl_move hs ?_
  refine wl_nilCheck (aget_put_same _ _ _ (by (first | rw [hN] | simp only [size_put, hN]); omega)) ?_
  refine wl_fieldAddr hT (aget_put_same _ _ _ (by (first | rw [hN] | simp only [size_put, hN]); omega)) ?_
  refine wl_assign (aget_put_same _ _ _ (by (first | rw [hN] | simp only [size_put, hN]); omega)) ?_
  refine wpList_nil (h _ ((((Fr.refl N lo t x0 a).put _ _ (by omega)).put _ _ (by omega)).put _ _ (by omega) |>.put _ _ (by omega)) (aget_put_same _ _ _ (by (first | rw [hN] | simp only [size_put, hN]); omega)))

/-- 'v := u'. -/
theorem reg_copy {N nt lo t u v t1 r x0 ty1 ty2 : Nat} {p1 p2 : String} {e1 e2 : Array Edge} {x : Value}
    (hN : a.tmps.size = nt) (hs : aget a u = x) (hd : N ≤ t ∧ t ≤ t1 ∧ t1 < nt ∧ lo ≤ v ∧ v < N)
    (h : ∀ a', Fr N lo t x0 a a' → aget a' v = x → Q .normal a' w) :
    (Code.region r #[⟨some t1, .move (.tmp u), ty1, p1, e1, none⟩, ⟨some v, .assign (.tmp t1), ty2, p2, e2, none⟩] false).wp P Q a w := by
  obtain ⟨h1, h2, h3, h4, h5⟩ := hd
  refine wp_reg ?_
  refine wl_move hs ?_
  refine wl_assign (aget_put_same _ _ _ (by (first | rw [hN] | simp only [size_put, hN]); omega)) ?_
  refine wpList_nil (h _ (((Fr.refl N lo t x0 a).put _ _ (by omega)).put _ _ (by omega)) (aget_put_same _ _ _ (by (first | rw [hN] | simp only [size_put, hN]); omega)))

/-- A flag, fetched for a test. -/
theorem reg_flag {N nt lo t u t1 r x0 ty1 : Nat} {p1 : String} {e1 : Array Edge} {x : Value} (hN : a.tmps.size = nt) (hs : aget a u = x) (hd : N ≤ t ∧ t ≤ t1 ∧ t1 < nt ∧ lo ≤ N)
    (h : ∀ a', Fr N lo t x0 a a' → aget a' t1 = x → Q .normal a' w) : (Code.region r #[⟨some t1, .move (.tmp u), ty1, p1, e1, none⟩] false).wp P Q a w := by
  obtain ⟨h1, h2, h3, h4⟩ := hd
  refine wp_reg ?_
  refine wl_move hs ?_
  exact wpList_nil (h _ ((Fr.refl N lo t x0 a).put _ _ (by omega)) (aget_put_same _ _ _ (by (first | rw [hN] | simp only [size_put, hN]); omega)))

theorem run_cmp_i16 (op : BinOp) (T : Nat) (x y : Int) : ∀ w : World, (binOp op T (.int .i16 x) (.int .i16 y)).run P w = (match op with | .geq => .ok (.bool (decide (y ≤ x))) w | .leq => .ok (.bool (decide (x ≤ y))) w | .lss => .ok (.bool (decide (x < y))) w | o => (binOp o T (.int .i16 x) (.int .i16 y)).run P w) := by
  intro w
  cases op <;> first | rfl | simp [binOp, Op.intCmp]

/-- 'version >= n', 'version < n', .. of a test. -/
theorem reg_cmp {N nt lo t u t1 r x0 ty1 ty2 T U : Nat} {op : BinOp} {p1 p2 : String} {e1 e2 : Array Edge} {x n : Int} {b : Bool} (hN : a.tmps.size = nt) (hs : aget a u = .int .i16 x) (hd : N ≤ t ∧ t ≤ t1 ∧ t1 + 1 < nt ∧ lo ≤ N)
    (hb : ∀ w : World, (binOp op T (.int .i16 x) (.int .i16 n)).run P w = .ok (.bool b) w)
    (h : ∀ a', Fr N lo t x0 a a' → aget a' (t1 + 1) = .bool b → Q .normal a' w) :
    (Code.region r #[⟨some t1, .move (.tmp u), ty1, p1, e1, none⟩, ⟨some (t1 + 1), .binOp op T (.tmp t1) (.const (.int .i16 n)) U, ty2, p2, e2, none⟩] false).wp P Q a w := by
  obtain ⟨h1, h2, h3, h4⟩ := hd
  refine wp_reg ?_
  refine wl_move hs ?_
  refine wl_bin (aget_put_same _ _ _ (by (first | rw [hN] | simp only [size_put, hN]); omega)) (eqGuard_at_int ..) (hb w) ?_
  exact wpList_nil (h _ (((Fr.refl N lo t x0 a).put _ _ (by omega)).put _ _ (by omega)) (aget_put_same _ _ _ (by (first | rw [hN] | simp only [size_put, hN]); omega)))

/-- 'isFlexible := version >= n'. -/
theorem reg_cmpv {N nt lo t u v t1 r x0 ty1 ty2 ty3 T U : Nat} {op : BinOp} {p1 p2 p3 : String} {e1 e2 e3 : Array Edge} {x n : Int} {b : Bool} (hN : a.tmps.size = nt) (hs : aget a u = .int .i16 x) (hd : N ≤ t ∧ t ≤ t1 ∧ t1 + 1 < nt ∧ lo ≤ v ∧ v < N)
    (hb : ∀ w : World, (binOp op T (.int .i16 x) (.int .i16 n)).run P w = .ok (.bool b) w)
    (h : ∀ a', Fr N lo t x0 a a' → aget a' v = .bool b → Q .normal a' w) :
    (Code.region r #[⟨some t1, .move (.tmp u), ty1, p1, e1, none⟩, ⟨some (t1 + 1), .binOp op T (.tmp t1) (.const (.int .i16 n)) U, ty2, p2, e2, none⟩, ⟨some v, .assign (.tmp (t1 + 1)), ty3, p3, e3, none⟩] false).wp P Q a w := by
  obtain ⟨h1, h2, h3, h4, h5⟩ := hd
  refine wp_reg ?_
  refine wl_move hs ?_
  refine wl_bin (aget_put_same _ _ _ (by (first | rw [hN] | simp only [size_put, hN]); omega)) (eqGuard_at_int ..) (hb w) ?_
  refine wl_assign (aget_put_same _ _ _ (by (first | rw [hN] | simp only [size_put, hN]); omega)) ?_
  exact wpList_nil (h _ ((((Fr.refl N lo t x0 a).put _ _ (by omega)).put _ _ (by omega)).put _ _ (by omega)) (aget_put_same _ _ _ (by (first | rw [hN] | simp only [size_put, hN]); omega)))

/-- 'version >= n && version <= m' of a test. -/
theorem reg_range {N nt lo t u t1 r x0 ty1 ty2 ty3 ty4 ty5 ty6 T U T' U' : Nat} {p1 p2 p3 p4 p5 p6 : String} {e1 e2 e3 e4 e5 e6 : Array Edge} {x n m : Int} (hN : a.tmps.size = nt) (hs : aget a u = .int .i16 x) (hd : N ≤ t ∧ t ≤ t1 ∧ t1 + 5 < nt ∧ lo ≤ N ∧ u ≠ t1 ∧ u ≠ t1 + 1 ∧ u ≠ t1 + 2)
    (h : ∀ a', Fr N lo t x0 a a' → aget a' (t1 + 5) = .bool (hasV n (some m) x) → Q .normal a' w) :
    (Code.region r #[⟨some t1, .move (.tmp u), ty1, p1, e1, none⟩, ⟨some (t1 + 1), .binOp .geq T (.tmp t1) (.const (.int .i16 n)) U, ty2, p2, e2, none⟩, ⟨some (t1 + 2), .move (.tmp (t1 + 1)), ty3, p3, e3, none⟩,
      ⟨some (t1 + 3), .move (.tmp u), ty4, p4, e4, some (2, true)⟩, ⟨some (t1 + 4), .binOp .leq T' (.tmp (t1 + 3)) (.const (.int .i16 m)) U', ty5, p5, e5, some (2, true)⟩,
      ⟨some (t1 + 5), .pick (.tmp (t1 + 2)) (.tmp (t1 + 4)) (.const (.bool false)), ty6, p6, e6, none⟩] false).wp P Q a w := by
  obtain ⟨h1, h2, h3, h4, h5, h6, h7⟩ := hd
  refine wp_reg ?_
  refine wl_move hs ?_
  refine wl_bin (r := .bool (decide (n ≤ x))) (aget_put_same _ _ _ (by (first | rw [hN] | simp only [size_put, hN]); omega)) (eqGuard_at_int ..) (by rw [run_cmp_i16]) ?_
  refine wl_move (aget_put_same _ _ _ (by (first | rw [hN] | simp only [size_put, hN]); omega)) ?_
  have hy : ∀ (A : Act) (b : Bool) (l : Array Oper) (o : Oper), l[2]? = some o → o.dst = some (t1 + 2) → aget A (t1 + 2) = .bool b → t1 + 2 < A.tmps.size → yielded l A.tmps 2 = some b := by
    intro A b l o hl ho hA hlt
    unfold aget at hA
    rw [Array.getD_eq_getD_getElem?, Array.getElem?_eq_getElem hlt] at hA
    simp at hA
    simp [yielded, hl, ho, hlt, hA]
  by_cases hn : n ≤ x
  · rw [decide_eq_true hn]
    refine wpList_step fun K hK => ?_
    rw [if_pos (by
      simp only [Region.wanted]
      rw [hy _ true _ _ rfl rfl (aget_put_same _ _ _ (by (first | rw [hN] | simp only [size_put, hN]); omega)) (by (first | rw [hN] | simp only [size_put, hN]); omega)]
      rfl)]
    unfold Oper.wp
    have e0 : ∀ A : Act, aget A u = .int .i16 x → (execOp A.eval ⟨some (t1 + 3), .move (.tmp u), ty4, p4, e4, some (2, true)⟩).run P w = .ok (.value (.int .i16 x)) w := by
      intro A hA
      simp [execOp, aget_eval, hA]
    rw [e0 _ (by rw [aget_put_other _ _ _ _ (by omega), aget_put_other _ _ _ _ (by omega), aget_put_other _ _ _ _ (by omega)]; exact hs)]
    refine hK _ _ ?_
    refine wpList_step fun K2 hK2 => ?_
    rw [if_pos (by
      simp only [Region.wanted]
      rw [hy _ true _ _ rfl rfl (by rw [aget_put_other _ _ _ _ (by omega)]; exact aget_put_same _ _ _ (by (first | rw [hN] | simp only [size_put, hN]); omega)) (by (first | rw [hN] | simp only [size_put, hN]); omega)]
      rfl)]
    unfold Oper.wp
    have e1 : ∀ A : Act, aget A (t1 + 3) = .int .i16 x → (execOp A.eval ⟨some (t1 + 4), .binOp .leq T' (.tmp (t1 + 3)) (.const (.int .i16 m)) U', ty5, p5, e5, some (2, true)⟩).run P w = .ok (.value (.bool (decide (x ≤ m)))) w := by
      intro A hA
      have e2 : A.eval (.tmp (t1 + 3)) = .int .i16 x := hA
      have e3 : A.eval (.const (.int .i16 m)) = .int .i16 m := rfl
      simp [execOp, e2, e3, eqGuard_at_int, run_cmp_i16]
    rw [e1 _ (aget_put_same _ _ _ (by (first | rw [hN] | simp only [size_put, hN]); omega))]
    refine hK2 _ _ ?_
    refine wl_value (v := .bool (hasV n (some m) x)) (w' := w) rfl ?_ ?_
    · have e2 : ∀ A : Act, aget A (t1 + 2) = .bool true → aget A (t1 + 4) = .bool (decide (x ≤ m)) → (execOp A.eval ⟨some (t1 + 5), .pick (.tmp (t1 + 2)) (.tmp (t1 + 4)) (.const (.bool false)), ty6, p6, e6, none⟩).run P w = .ok (.value (.bool (hasV n (some m) x))) w := by
        intro A hA hB
        simp [execOp, aget_eval, hA, hB, asBool, hasV, hn]
      refine e2 _ ?_ (aget_put_same _ _ _ (by (first | rw [hN] | simp only [size_put, hN]); omega))
      rw [aget_put_other _ _ _ _ (by omega), aget_put_other _ _ _ _ (by omega)]
      exact aget_put_same _ _ _ (by (first | rw [hN] | simp only [size_put, hN]); omega)
    · exact wpList_nil (h _ (((((((Fr.refl N lo t x0 a).put _ _ (by omega)).put _ _ (by omega)).put _ _ (by omega)).put _ _ (by omega)).put _ _ (by omega)).put _ _ (by omega)) (aget_put_same _ _ _ (by (first | rw [hN] | simp only [size_put, hN]); omega)))
  · rw [decide_eq_false hn]
    refine wpList_step fun K hK => ?_
    rw [if_neg (by
      simp only [Region.wanted]
      rw [hy _ false _ _ rfl rfl (aget_put_same _ _ _ (by (first | rw [hN] | simp only [size_put, hN]); omega)) (by (first | rw [hN] | simp only [size_put, hN]); omega)]
      decide)]
    refine hK _ _ ?_
    refine wpList_step fun K2 hK2 => ?_
    rw [if_neg (by
      simp only [Region.wanted]
      rw [hy _ false _ _ rfl rfl (by rw [aget_put_other _ _ _ _ (by omega)]; exact aget_put_same _ _ _ (by (first | rw [hN] | simp only [size_put, hN]); omega)) (by (first | rw [hN] | simp only [size_put, hN]); omega)]
      decide)]
    refine hK2 _ _ ?_
    refine wl_value (v := .bool (hasV n (some m) x)) (w' := w) rfl ?_ ?_
    · have e2 : ∀ A : Act, aget A (t1 + 2) = .bool false → (execOp A.eval ⟨some (t1 + 5), .pick (.tmp (t1 + 2)) (.tmp (t1 + 4)) (.const (.bool false)), ty6, p6, e6, none⟩).run P w = .ok (.value (.bool (hasV n (some m) x))) w := by
        intro A hA
        have e3 : A.eval (.const (.bool false)) = .bool false := rfl
        simp [execOp, aget_eval, hA, asBool, hasV, hn, e3]
      refine e2 _ ?_
      rw [aget_put_other _ _ _ _ (by omega), aget_put_other _ _ _ _ (by omega)]
      exact aget_put_same _ _ _ (by (first | rw [hN] | simp only [size_put, hN]); omega)
    · exact wpList_nil (h _ (((((((Fr.refl N lo t x0 a).put _ _ (by omega)).put _ _ (by omega)).put _ _ (by omega)).put _ _ (by omega)).put _ _ (by omega)).put _ _ (by omega)) (aget_put_same _ _ _ (by (first | rw [hN] | simp only [size_put, hN]); omega)))

end
end Go.Proofs.YtmpilpgabelmiaaGreatDoor

/-
  DERIVED: THE SHELF's CONTRACTS AT THIS DUMP, IN PLAIN WORDS (tools/lay-plain.mjs out of 'TryzShelf.lean', which tools/lay-shelf.mjs wrote): THE SAME DECLARATIONS UNDER THE SAME NAMES: 'import', 'namespace', 'open', 'def', 'theorem' AND NOTHING ELSE: no command of the shelf's: FOR A HAND-IN. Each laying: the table of numbers ('.._ren') and one theorem, a field a fact of the dump's own or the kernel's comparison; each contract: ONE APPLICATION.
-/
namespace Go.Proofs
open Go.Shelf
def Tryz.lays128_ren : Go.Shelf.Ren := ⟨fun | 128 => 95 | n => n, fun | 51 => 66 | 3 => 3 | 4 => 4 | 46 => 124 | 5 => 5 | 9 => 9 | n => n, fun | n => n⟩
theorem Tryz.lays128 : Go.Proofs.Lays.n128 Tryz.prog Tryz.lays128_ren := {
  mixed := by kernel_rfl
  f128 := Tryz.func95.trans (congrArg some (by kernel_rfl))
  t3 := Tryz.underlying3
  a3 := Tryz.isAgg3
  z3 := Tryz.sizeOf3
  v3 := Tryz.zeroValue3
  t4 := Tryz.underlying4
  a4 := Tryz.isAgg4
  z4 := Tryz.sizeOf4
  v4 := Tryz.zeroValue4
  t5 := Tryz.underlying5
  a5 := Tryz.isAgg5
  z5 := Tryz.sizeOf5
  v5 := Tryz.zeroValue5
  t9 := Tryz.underlying9
  a9 := Tryz.isAgg9
  z9 := Tryz.sizeOf9
  v9 := Tryz.zeroValue9
  t46 := Tryz.underlying124
  a46 := Tryz.isAgg124
  z46 := Tryz.sizeOf124
  v46 := Tryz.zeroValue124
  t51 := Tryz.underlying66
  a51 := Tryz.isAgg66
  z51 := Tryz.sizeOf66
  v51 := Tryz.zeroValue66 }
/-- bits.Len32: "Len32 returns the minimum number of bits required to represent x; the result is 0 for x == 0.": IT RETURNS 'Lib.bitLen x'; the world is as it was. ('h0', 'h1': x is a uint32.) (LAID: no walk: one application.) -/
theorem Tryz.bits_Len32 (x : Int) (w : World) (h0 : 0 ≤ x) (h1 : x ≤ 4294967295) :
    Calls Tryz.prog 95 #[.int .u32 x] w fun e w' => e = .returned (.int .i64 (Lib.bitLen x.toNat)) ∧ w' = w := Any.bits_Len32 Tryz.lays128 x w h0 h1
def Tryz.laysBin36_ren : Go.Shelf.Ren := ⟨fun | 36 => 90 | n => n, fun | 37 => 134 | 22 => 22 | 23 => 37 | 0 => 0 | 5 => 5 | 45 => 124 | n => n, fun | n => n⟩
theorem Tryz.laysBin36 : Go.Proofs.LaysBin.n36 Tryz.prog Tryz.laysBin36_ren := {
  mixed := by kernel_rfl
  f36 := Tryz.func90.trans (congrArg some (by kernel_rfl))
  t0 := Tryz.underlying0
  a0 := Tryz.isAgg0
  z0 := Tryz.sizeOf0
  v0 := Tryz.zeroValue0
  i0 := by kernel_rfl
  t5 := Tryz.underlying5
  a5 := Tryz.isAgg5
  z5 := Tryz.sizeOf5
  v5 := Tryz.zeroValue5
  i5 := by kernel_rfl
  t22 := Tryz.underlying22
  a22 := Tryz.isAgg22
  z22 := Tryz.sizeOf22
  v22 := Tryz.zeroValue22
  i22 := by kernel_rfl
  t23 := Tryz.underlying37
  a23 := Tryz.isAgg37
  z23 := Tryz.sizeOf37
  v23 := Tryz.zeroValue37
  i23 := by kernel_rfl
  t37 := Tryz.underlying134
  a37 := Tryz.isAgg134
  z37 := Tryz.sizeOf134
  v37 := Tryz.zeroValue134
  i37 := by kernel_rfl
  t45 := Tryz.underlying124
  a45 := Tryz.isAgg124
  z45 := Tryz.sizeOf124
  v45 := Tryz.zeroValue124
  i45 := by kernel_rfl }
open Go.RowKit in
/-- binary.BigEndian.Uint16: "Uint16 returns the uint16 representation of b[0:2].": THE NUMBER THAT THE FIRST 2 BYTES SPELL, the greatest byte first ('Lib.beNat'). Of what was there nothing has turned (the receiver, an empty struct, is laid in a new block without cells; the statement's order is drawn). (LAID: no walk: one application.) -/
theorem Tryz.binary_BE_Uint16 (g o n c : Nat) (b0 b1 : UInt8) (w : World) (hn : 2 ≤ n) (c0 : w.cell? ⟨g, o, none⟩ = some (.int .u8 b0.toNat)) (c1 : w.cell? ⟨g, o + 1, none⟩ = some (.int .u8 b1.toNat)) :
    Calls Tryz.prog 90 #[.agg #[], .slice (some ⟨g, o, none⟩) n c] w fun e w' => e = .returned (.int .u16 (Lib.beNat [b0, b1])) ∧ Below w.heap.size w w' := Any.binary_BE_Uint16 Tryz.laysBin36 g o n c b0 b1 w hn c0 c1
def Tryz.laysBin39_ren : Go.Shelf.Ren := ⟨fun | 39 => 92 | n => n, fun | 37 => 134 | 22 => 22 | 29 => 66 | 0 => 0 | 5 => 5 | 45 => 124 | n => n, fun | n => n⟩
theorem Tryz.laysBin39 : Go.Proofs.LaysBin.n39 Tryz.prog Tryz.laysBin39_ren := {
  mixed := by kernel_rfl
  f39 := Tryz.func92.trans (congrArg some (by kernel_rfl))
  t0 := Tryz.underlying0
  a0 := Tryz.isAgg0
  z0 := Tryz.sizeOf0
  v0 := Tryz.zeroValue0
  i0 := by kernel_rfl
  t5 := Tryz.underlying5
  a5 := Tryz.isAgg5
  z5 := Tryz.sizeOf5
  v5 := Tryz.zeroValue5
  i5 := by kernel_rfl
  t22 := Tryz.underlying22
  a22 := Tryz.isAgg22
  z22 := Tryz.sizeOf22
  v22 := Tryz.zeroValue22
  i22 := by kernel_rfl
  t29 := Tryz.underlying66
  a29 := Tryz.isAgg66
  z29 := Tryz.sizeOf66
  v29 := Tryz.zeroValue66
  i29 := by kernel_rfl
  t37 := Tryz.underlying134
  a37 := Tryz.isAgg134
  z37 := Tryz.sizeOf134
  v37 := Tryz.zeroValue134
  i37 := by kernel_rfl
  t45 := Tryz.underlying124
  a45 := Tryz.isAgg124
  z45 := Tryz.sizeOf124
  v45 := Tryz.zeroValue124
  i45 := by kernel_rfl }
open Go.RowKit in
/-- binary.BigEndian.Uint32: "Uint32 returns the uint32 representation of b[0:4].": THE NUMBER THAT THE FIRST 4 BYTES SPELL, the greatest byte first ('Lib.beNat'). Of what was there nothing has turned (the receiver, an empty struct, is laid in a new block without cells; the statement's order is drawn). (LAID: no walk: one application.) -/
theorem Tryz.binary_BE_Uint32 (g o n c : Nat) (b0 b1 b2 b3 : UInt8) (w : World) (hn : 4 ≤ n) (c0 : w.cell? ⟨g, o, none⟩ = some (.int .u8 b0.toNat)) (c1 : w.cell? ⟨g, o + 1, none⟩ = some (.int .u8 b1.toNat)) (c2 : w.cell? ⟨g, o + 2, none⟩ = some (.int .u8 b2.toNat)) (c3 : w.cell? ⟨g, o + 3, none⟩ = some (.int .u8 b3.toNat)) :
    Calls Tryz.prog 92 #[.agg #[], .slice (some ⟨g, o, none⟩) n c] w fun e w' => e = .returned (.int .u32 (Lib.beNat [b0, b1, b2, b3])) ∧ Below w.heap.size w w' := Any.binary_BE_Uint32 Tryz.laysBin39 g o n c b0 b1 b2 b3 w hn c0 c1 c2 c3
def Tryz.laysBin42_ren : Go.Shelf.Ren := ⟨fun | 42 => 98 | n => n, fun | 37 => 134 | 22 => 22 | 33 => 95 | 0 => 0 | 5 => 5 | 45 => 124 | n => n, fun | n => n⟩
theorem Tryz.laysBin42 : Go.Proofs.LaysBin.n42 Tryz.prog Tryz.laysBin42_ren := {
  mixed := by kernel_rfl
  f42 := Tryz.func98.trans (congrArg some (by kernel_rfl))
  t0 := Tryz.underlying0
  a0 := Tryz.isAgg0
  z0 := Tryz.sizeOf0
  v0 := Tryz.zeroValue0
  i0 := by kernel_rfl
  t5 := Tryz.underlying5
  a5 := Tryz.isAgg5
  z5 := Tryz.sizeOf5
  v5 := Tryz.zeroValue5
  i5 := by kernel_rfl
  t22 := Tryz.underlying22
  a22 := Tryz.isAgg22
  z22 := Tryz.sizeOf22
  v22 := Tryz.zeroValue22
  i22 := by kernel_rfl
  t33 := Tryz.underlying95
  a33 := Tryz.isAgg95
  z33 := Tryz.sizeOf95
  v33 := Tryz.zeroValue95
  i33 := by kernel_rfl
  t37 := Tryz.underlying134
  a37 := Tryz.isAgg134
  z37 := Tryz.sizeOf134
  v37 := Tryz.zeroValue134
  i37 := by kernel_rfl
  t45 := Tryz.underlying124
  a45 := Tryz.isAgg124
  z45 := Tryz.sizeOf124
  v45 := Tryz.zeroValue124
  i45 := by kernel_rfl }
open Go.RowKit in
/-- binary.BigEndian.Uint64: "Uint64 returns the uint64 representation of b[0:8].": THE NUMBER THAT THE FIRST 8 BYTES SPELL, the greatest byte first ('Lib.beNat'). Of what was there nothing has turned (the receiver, an empty struct, is laid in a new block without cells; the statement's order is drawn). (LAID: no walk: one application.) -/
theorem Tryz.binary_BE_Uint64 (g o n c : Nat) (b0 b1 b2 b3 b4 b5 b6 b7 : UInt8) (w : World) (hn : 8 ≤ n) (c0 : w.cell? ⟨g, o, none⟩ = some (.int .u8 b0.toNat)) (c1 : w.cell? ⟨g, o + 1, none⟩ = some (.int .u8 b1.toNat)) (c2 : w.cell? ⟨g, o + 2, none⟩ = some (.int .u8 b2.toNat)) (c3 : w.cell? ⟨g, o + 3, none⟩ = some (.int .u8 b3.toNat)) (c4 : w.cell? ⟨g, o + 4, none⟩ = some (.int .u8 b4.toNat)) (c5 : w.cell? ⟨g, o + 5, none⟩ = some (.int .u8 b5.toNat)) (c6 : w.cell? ⟨g, o + 6, none⟩ = some (.int .u8 b6.toNat)) (c7 : w.cell? ⟨g, o + 7, none⟩ = some (.int .u8 b7.toNat)) :
    Calls Tryz.prog 98 #[.agg #[], .slice (some ⟨g, o, none⟩) n c] w fun e w' => e = .returned (.int .u64 (Lib.beNat [b0, b1, b2, b3, b4, b5, b6, b7])) ∧ Below w.heap.size w w' := Any.binary_BE_Uint64 Tryz.laysBin42 g o n c b0 b1 b2 b3 b4 b5 b6 b7 w hn c0 c1 c2 c3 c4 c5 c6 c7
end Go.Proofs

/- What kbin writes: each function appends just these bytes to bytes of the call's own. -/
namespace Go.Proofs.YtmpilpgabelmiaaGreatDoor
open Go Go.RowKit
set_option linter.unusedVariables false

/-- The ending of a function that appends: the bytes bs, of the call's own; below base nothing has turned. -/
def Appended (base : Nat) (w : World) (bs : List UInt8) (e : Ending) (w' : World) : Prop := ∃ v', e = .returned v' ∧ Own base w' v' bs ∧ Below base w w'
/-- Function f, with one argument behind the bytes, appends new. -/
def AppC (P : Program) (f : Nat) (arg : Value) (new : List UInt8) : Prop :=
  ∀ (base : Nat) (w : World) (v : Value) (bs : List UInt8), Own base w v bs → base ≤ w.heap.size → bs.length + new.length ≤ lim → Calls P f #[v, arg] w (Appended base w (bs ++ new))
/-- The same of an argument that lies in memory. -/
def AppM (P : Program) (f : Nat) (pre : World → Value → List UInt8 → Prop) : Prop :=
  ∀ (arg : Value) (new : List UInt8) (base : Nat) (w : World) (v : Value) (bs : List UInt8), pre w arg new → Own base w v bs → base ≤ w.heap.size → bs.length + new.length ≤ lim → Calls P f #[v, arg] w (Appended base w (bs ++ new))
theorem Appended.mk {base : Nat} {w : World} {bs : List UInt8} {v' : Value} {w' : World} (h : Own base w' v' bs) (hb : Below base w w') : Appended base w bs (.returned v') w' := ⟨v', rfl, h, hb⟩

theorem Tryz.bytesInfo : (Tryz.prog.info? 5).map (fun i => (i.zero, i.size, i.bytes)) = some (some (.int .u8 0), 1, 1) := by kernel_rfl
theorem bt : BytesT Tryz.prog 22 5 := ⟨Tryz.underlying22, info_parts Tryz.bytesInfo, Tryz.underlying5⟩
theorem byteV_bb (n : Int) : byteV (bb n) = Value.int .u8 (n % 256) := by
  unfold byteV bb
  congr 1
  simp
  omega
theorem byteV_nat {n : Nat} (h : n < 256) : byteV (UInt8.ofNat n) = Value.int .u8 (n : Int) := by
  unfold byteV
  congr 1
  simp
  omega

set_option maxHeartbeats 400000 in
theorem appendBool (b : Bool) : AppC Tryz.prog 56 (.bool b) [if b then 1 else 0] := by
  intro base w v bs hown hb hl
  cases b
  · go_enter Tryz.func56, Tryz.ntmps56
    go_wp2_with (at_builtin; refine halted ?_)
    refine wpl_append_bytes bt rfl _ _ rfl base bs hown hb _ [0] ?_ rfl hl ?_
    · rfl
    intro v' w' hown' hbel
    go_wp2
    go_ret
    exact .mk hown' hbel
  · go_enter Tryz.func56, Tryz.ntmps56
    go_wp2_with (at_builtin; refine halted ?_)
    refine wpl_append_bytes bt rfl _ _ rfl base bs hown hb _ [1] ?_ rfl hl ?_
    · rfl
    intro v' w' hown' hbel
    go_wp2
    go_ret
    exact .mk hown' hbel
set_option maxHeartbeats 400000 in
theorem appendInt8 (x : Int) (h0 : -128 ≤ x) (h1 : x ≤ 127) : AppC Tryz.prog 35 (.int .i8 x) [bb x] := by
  intro base w v bs hown hb hl
  go_enter Tryz.func35, Tryz.ntmps35
  go_wp2_with (at_builtin; refine halted ?_)
  refine wpl_append_bytes bt rfl _ _ rfl base bs hown hb _ [bb x] ?_ rfl hl ?_
  · simp only [List.map_cons, List.map_nil, byteV_bb]
  intro v' w' hown' hbel
  go_wp2
  go_ret
  exact .mk hown' hbel
set_option maxHeartbeats 400000 in
theorem appendUint16 (x : Int) (h0 : 0 ≤ x) (h1 : x ≤ 65535) : AppC Tryz.prog 57 (.int .u16 x) (be16 x) := by
  intro base w v bs hown hb hl
  go_enter Tryz.func57, Tryz.ntmps57
  go_wp2_with (at_builtin; refine halted ?_)
  refine wpl_append_bytes bt rfl _ _ rfl base bs hown hb _ (be16 x) ?_ rfl hl ?_
  · have e : x / 256 % 256 = x / 256 := by omega
    simp only [be16, List.map_cons, List.map_nil, byteV_bb, e]
  intro v' w' hown' hbel
  go_wp2
  go_ret
  exact .mk hown' hbel
set_option maxHeartbeats 400000 in
theorem appendInt16 (x : Int) (h0 : -32768 ≤ x) (h1 : x ≤ 32767) : AppC Tryz.prog 32 (.int .i16 x) (be16 x) := by
  intro base w v bs hown hb hl
  go_enter Tryz.func32, Tryz.ntmps32
  go_wp2_with fail
  refine (appendUint16 (x % 65536) (by omega) (by omega) base w v bs hown hb hl).mono ?_
  rintro e w' ⟨v', rfl, hown', hbel⟩
  rw [be16_mod] at hown'
  go_wp2
  go_ret
  exact .mk hown' hbel
set_option maxRecDepth 100000 in
set_option maxHeartbeats 400000 in
theorem appendUint32 (x : Int) (h0 : 0 ≤ x) (h1 : x ≤ 4294967295) : AppC Tryz.prog 76 (.int .u32 x) (be32 x) := by
  intro base w v bs hown hb hl
  go_enter Tryz.func76, Tryz.ntmps76
  go_wp2_with (at_builtin; refine halted ?_)
  refine wpl_append_bytes bt rfl _ _ rfl base bs hown hb _ (be32 x) ?_ rfl hl ?_
  · have e : x / 16777216 % 256 = x / 16777216 := by omega
    simp only [be32, List.map_cons, List.map_nil, byteV_bb, e]
  intro v' w' hown' hbel
  go_wp2
  go_ret
  exact .mk hown' hbel
set_option maxRecDepth 100000 in
set_option maxHeartbeats 400000 in
theorem appendInt32 (x : Int) (h0 : -2147483648 ≤ x) (h1 : x ≤ 2147483647) : AppC Tryz.prog 34 (.int .i32 x) (be32 x) := by
  intro base w v bs hown hb hl
  go_enter Tryz.func34, Tryz.ntmps34
  go_wp2_with fail
  refine (appendUint32 (x % 4294967296) (by omega) (by omega) base w v bs hown hb hl).mono ?_
  rintro e w' ⟨v', rfl, hown', hbel⟩
  rw [be32_mod] at hown'
  go_wp2
  go_ret
  exact .mk hown' hbel
set_option maxRecDepth 100000 in
set_option maxHeartbeats 1000000 in
theorem appendUint64 (x : Int) (h0 : 0 ≤ x) (h1 : x / 72057594037927936 ≤ 255) : AppC Tryz.prog 75 (.int .u64 x) (be64 x) := by
  intro base w v bs hown hb hl
  go_enter Tryz.func75, Tryz.ntmps75
  go_wp2_with (at_builtin; refine halted ?_)
  refine wpl_append_bytes bt rfl _ _ rfl base bs hown hb _ (be64 x) ?_ rfl hl ?_
  · have e : x / 72057594037927936 % 256 = x / 72057594037927936 := by omega
    simp only [be64, List.map_cons, List.map_nil, byteV_bb, e]
  intro v' w' hown' hbel
  go_wp2
  go_ret
  exact .mk hown' hbel
set_option maxRecDepth 100000 in
set_option maxHeartbeats 400000 in
theorem appendInt64 (x : Int) : AppC Tryz.prog 33 (.int .i64 x) (be64 x) := by
  intro base w v bs hown hb hl
  go_enter Tryz.func33, Tryz.ntmps33
  go_wp2_with fail
  refine (appendUint64 (x % 18446744073709551616) (by omega) (by omega) base w v bs hown hb hl).mono ?_
  rintro e w' ⟨v', rfl, hown', hbel⟩
  rw [be64_mod] at hown'
  go_wp2
  go_ret
  exact .mk hown' hbel
set_option maxRecDepth 100000 in
set_option maxHeartbeats 400000 in
theorem appendArrayLen (n : Nat) (hn : n ≤ 2147483647) : AppC Tryz.prog 41 (.int .i64 n) (be32 n) := by
  intro base w v bs hown hb hl
  go_enter Tryz.func41, Tryz.ntmps41
  go_wp2_with fail
  refine (appendInt32 n (by omega) (by omega) base w v bs hown hb hl).mono ?_
  rintro e w' ⟨v', rfl, hown', hbel⟩
  go_wp2
  go_ret
  exact .mk hown' hbel
/-- How many octets a number in groups of seven bits has. -/
def ulen (u : Int) : Int := if u < 128 then 1 else if u < 16384 then 2 else if u < 2097152 then 3 else if u < 268435456 then 4 else 5
def lenTab (k : Nat) : Int := if k < 8 then 1 else if k < 15 then 2 else if k < 22 then 3 else if k < 29 then 4 else 5
theorem ulen_tab (u : Int) (h0 : 0 ≤ u) (h1 : u ≤ 4294967295) : ulen u = lenTab (Lib.bitLen u.toNat) ∧ Lib.bitLen u.toNat ≤ 32 := by
  by_cases hz : u.toNat = 0
  · rw [hz]
    have : u = 0 := by omega
    subst this
    exact ⟨by decide, by decide⟩
  · obtain ⟨h2, h3, h4⟩ := Lib.bitLenAux_bounds 64 u.toNat (by omega) hz
    change 1 ≤ Lib.bitLen u.toNat at h2
    change 2 ^ (Lib.bitLen u.toNat - 1) ≤ u.toNat at h3
    change u.toNat < 2 ^ Lib.bitLen u.toNat at h4
    generalize Lib.bitLen u.toNat = k at *
    have hk : k ≤ 32 := by
      by_cases h : k ≤ 32
      · exact h
      · have := Nat.pow_le_pow_right (n := 2) (by omega) (show 32 ≤ k - 1 by omega)
        omega
    refine ⟨?_, hk⟩
    have hc : k = 0 ∨ k = 1 ∨ k = 2 ∨ k = 3 ∨ k = 4 ∨ k = 5 ∨ k = 6 ∨ k = 7 ∨ k = 8 ∨ k = 9 ∨ k = 10 ∨ k = 11 ∨ k = 12 ∨ k = 13 ∨ k = 14 ∨ k = 15 ∨ k = 16 ∨ k = 17 ∨ k = 18 ∨ k = 19 ∨ k = 20 ∨ k = 21 ∨ k = 22 ∨ k = 23 ∨ k = 24 ∨ k = 25 ∨ k = 26 ∨ k = 27 ∨ k = 28 ∨ k = 29 ∨ k = 30 ∨ k = 31 ∨ k = 32 := by omega
    clear hk
    unfold ulen lenTab
    rcases hc with rfl | rfl | rfl | rfl | rfl | rfl | rfl | rfl | rfl | rfl | rfl | rfl | rfl | rfl | rfl | rfl | rfl | rfl | rfl | rfl | rfl | rfl | rfl | rfl | rfl | rfl | rfl | rfl | rfl | rfl | rfl | rfl | rfl <;> (simp at h3 h4 ⊢; omega)
set_option maxRecDepth 100000 in
set_option maxHeartbeats 400000 in
theorem uvarintLen0 (w : World) (u : Int) (h0 : 0 ≤ u) (h1 : u ≤ 4294967295) (k : Nat) (hk : Lib.bitLen u.toNat = k) (hk32 : k ≤ 32) : Calls Tryz.prog 77 #[.int .u32 u] w fun e w' => e = .returned (.int .i64 (lenTab k)) ∧ w = w' := by
  have hc := Tryz.bits_Len32 u w h0 h1
  rw [hk] at hc
  have HC := Lib.hid hc
  clear hc hk
  go_enter Tryz.func77, Tryz.ntmps77
  go_wp2_with fail
  refine HC.out.mono ?_
  rintro e w' ⟨rfl, rfl⟩
  clear HC
  go_wp2
  go_ret
  refine ⟨?_, rfl⟩
  have hc : k = 0 ∨ k = 1 ∨ k = 2 ∨ k = 3 ∨ k = 4 ∨ k = 5 ∨ k = 6 ∨ k = 7 ∨ k = 8 ∨ k = 9 ∨ k = 10 ∨ k = 11 ∨ k = 12 ∨ k = 13 ∨ k = 14 ∨ k = 15 ∨ k = 16 ∨ k = 17 ∨ k = 18 ∨ k = 19 ∨ k = 20 ∨ k = 21 ∨ k = 22 ∨ k = 23 ∨ k = 24 ∨ k = 25 ∨ k = 26 ∨ k = 27 ∨ k = 28 ∨ k = 29 ∨ k = 30 ∨ k = 31 ∨ k = 32 := by omega
  rcases hc with rfl | rfl | rfl | rfl | rfl | rfl | rfl | rfl | rfl | rfl | rfl | rfl | rfl | rfl | rfl | rfl | rfl | rfl | rfl | rfl | rfl | rfl | rfl | rfl | rfl | rfl | rfl | rfl | rfl | rfl | rfl | rfl | rfl <;> (refine congrArg (fun x => Ending.returned (Value.int .i64 x)) ?_; simp [lenTab, ByteArray.getElem_eq_getElem_data, wrap64])
theorem uvarintLen (w : World) (u : Int) (h0 : 0 ≤ u) (h1 : u ≤ 4294967295) : Calls Tryz.prog 77 #[.int .u32 u] w fun e w' => e = .returned (.int .i64 (ulen u)) ∧ w = w' := by
  obtain ⟨ht, hk32⟩ := ulen_tab u h0 h1
  rw [ht]
  exact uvarintLen0 w u h0 h1 _ rfl hk32
theorem bv_and127 (n : Nat) (h : n < 4294967296) : (BitVec.ofNat 32 n &&& BitVec.ofNat 32 127).toNat = n % 128 := by
  have e := Nat.and_two_pow_sub_one_eq_mod n 7
  rw [BitVec.toNat_and, BitVec.toNat_ofNat, BitVec.toNat_ofNat, Nat.mod_eq_of_lt h]
  exact e
theorem bv_or128 (n : Nat) (h : n < 128) : (BitVec.ofNat 32 n ||| BitVec.ofNat 32 128).toNat = n + 128 := by
  have e := Nat.two_pow_add_eq_or_of_lt (i := 7) (b := n) h 1
  rw [BitVec.toNat_or, BitVec.toNat_ofNat, BitVec.toNat_ofNat, Nat.mod_eq_of_lt (by omega), Nat.or_comm]
  simp at e ⊢
  omega
theorem and127 (n : Nat) (h : n < 4294967296) : bits BinOp.and IntKind.u32 (n : Int) 127 = ((n % 128 : Nat) : Int) := by
  have e := bv_and127 n h
  have e2 : bits BinOp.and IntKind.u32 (n : Int) 127 = IntKind.u32.wrap (((BitVec.ofNat 32 n &&& BitVec.ofNat 32 127).toNat : Nat) : Int) := by
    unfold bits
    rfl
  rw [e2, e, IntKind.wrap_u32]
  omega
theorem or128 (n : Nat) (h : n < 128) : bits BinOp.or IntKind.u32 (n : Int) 128 = ((n + 128 : Nat) : Int) := by
  have e := bv_or128 n h
  have e2 : bits BinOp.or IntKind.u32 (n : Int) 128 = IntKind.u32.wrap (((BitVec.ofNat 32 n ||| BitVec.ofNat 32 128).toNat : Nat) : Int) := by
    unfold bits
    rfl
  rw [e2, e, IntKind.wrap_u32]
  omega
theorem seven (n : Nat) (h : n < 4294967296) : bits BinOp.or IntKind.u32 (bits BinOp.and IntKind.u32 (n : Int) 127) 128 % 256 = ((n % 128 + 128 : Nat) : Int) := by
  rw [and127 n h, or128 (n % 128) (by omega)]
  omega
set_option maxRecDepth 100000 in
set_option maxHeartbeats 1000000 in
theorem appendUvarint1 (n : Nat) (h0 : 0 ≤ n) (h1 : n ≤ 127) : AppC Tryz.prog 42 (.int .u32 n) (uv n) := by
  intro base w v bs hown hb hl
  have hu : ulen n = 1 := by unfold ulen; split <;> (try split) <;> (try split) <;> (try split) <;> omega
  rw [uv1 (by omega)] at hl ⊢
  go_enter Tryz.func42, Tryz.ntmps42
  go_wp2_with fail
  refine (uvarintLen w n (by omega) (by omega)).mono ?_
  rintro e w' ⟨rfl, rfl⟩
  rw [hu]
  clear hu
  go_wp2_with (at_builtin; refine halted ?_)
  refine wpl_append_bytes bt rfl _ _ rfl base bs hown hb _ [UInt8.ofNat n] ?_ rfl hl ?_
  · simp only [List.map_cons, List.map_nil, byteV_nat (show n < 256 by omega)]
    all_goals rfl
  intro v' w' hown' hbel
  go_wp2
  go_ret
  exact .mk hown' hbel
set_option maxRecDepth 100000 in
set_option maxHeartbeats 1000000 in
theorem appendUvarint2 (n : Nat) (h0 : 128 ≤ n) (h1 : n ≤ 16383) : AppC Tryz.prog 42 (.int .u32 n) (uv n) := by
  intro base w v bs hown hb hl
  have hu : ulen n = 2 := by unfold ulen; split <;> (try split) <;> (try split) <;> (try split) <;> omega
  rw [uv2 (by omega) (by omega)] at hl ⊢
  go_enter Tryz.func42, Tryz.ntmps42
  go_wp2_with fail
  refine (uvarintLen w n (by omega) (by omega)).mono ?_
  rintro e w' ⟨rfl, rfl⟩
  rw [hu]
  clear hu
  go_wp2_with (at_builtin; refine halted ?_)
  refine wpl_append_bytes bt rfl _ _ rfl base bs hown hb _ [UInt8.ofNat (n % 128 + 128), UInt8.ofNat (n / 128)] ?_ rfl hl ?_
  · simp only [List.map_cons, List.map_nil, byteV_nat (show n % 128 + 128 < 256 by omega), byteV_nat (show n / 128 < 256 by omega)]
    rw [show ((n : Int) / 128) = ((n / 128 : Nat) : Int) by omega, seven (n) (by omega)]
  intro v' w' hown' hbel
  go_wp2
  go_ret
  exact .mk hown' hbel
set_option maxRecDepth 100000 in
set_option maxHeartbeats 1000000 in
theorem appendUvarint3 (n : Nat) (h0 : 16384 ≤ n) (h1 : n ≤ 2097151) : AppC Tryz.prog 42 (.int .u32 n) (uv n) := by
  intro base w v bs hown hb hl
  have hu : ulen n = 3 := by unfold ulen; split <;> (try split) <;> (try split) <;> (try split) <;> omega
  rw [uv3 (by omega) (by omega)] at hl ⊢
  go_enter Tryz.func42, Tryz.ntmps42
  go_wp2_with fail
  refine (uvarintLen w n (by omega) (by omega)).mono ?_
  rintro e w' ⟨rfl, rfl⟩
  rw [hu]
  clear hu
  go_wp2_with (at_builtin; refine halted ?_)
  refine wpl_append_bytes bt rfl _ _ rfl base bs hown hb _ [UInt8.ofNat (n % 128 + 128), UInt8.ofNat (n / 128 % 128 + 128), UInt8.ofNat (n / 16384)] ?_ rfl hl ?_
  · simp only [List.map_cons, List.map_nil, byteV_nat (show n % 128 + 128 < 256 by omega), byteV_nat (show n / 128 % 128 + 128 < 256 by omega), byteV_nat (show n / 16384 < 256 by omega)]
    rw [show ((n : Int) / 128) = ((n / 128 : Nat) : Int) by omega, show ((n : Int) / 16384) = ((n / 16384 : Nat) : Int) by omega, seven (n) (by omega), seven (n / 128) (by omega)]
  intro v' w' hown' hbel
  go_wp2
  go_ret
  exact .mk hown' hbel
set_option maxRecDepth 100000 in
set_option maxHeartbeats 1000000 in
theorem appendUvarint4 (n : Nat) (h0 : 2097152 ≤ n) (h1 : n ≤ 268435455) : AppC Tryz.prog 42 (.int .u32 n) (uv n) := by
  intro base w v bs hown hb hl
  have hu : ulen n = 4 := by unfold ulen; split <;> (try split) <;> (try split) <;> (try split) <;> omega
  rw [uv4 (by omega) (by omega)] at hl ⊢
  go_enter Tryz.func42, Tryz.ntmps42
  go_wp2_with fail
  refine (uvarintLen w n (by omega) (by omega)).mono ?_
  rintro e w' ⟨rfl, rfl⟩
  rw [hu]
  clear hu
  go_wp2_with (at_builtin; refine halted ?_)
  refine wpl_append_bytes bt rfl _ _ rfl base bs hown hb _ [UInt8.ofNat (n % 128 + 128), UInt8.ofNat (n / 128 % 128 + 128), UInt8.ofNat (n / 16384 % 128 + 128), UInt8.ofNat (n / 2097152)] ?_ rfl hl ?_
  · simp only [List.map_cons, List.map_nil, byteV_nat (show n % 128 + 128 < 256 by omega), byteV_nat (show n / 128 % 128 + 128 < 256 by omega), byteV_nat (show n / 16384 % 128 + 128 < 256 by omega), byteV_nat (show n / 2097152 < 256 by omega)]
    rw [show ((n : Int) / 128) = ((n / 128 : Nat) : Int) by omega, show ((n : Int) / 16384) = ((n / 16384 : Nat) : Int) by omega, show ((n : Int) / 2097152) = ((n / 2097152 : Nat) : Int) by omega, seven (n) (by omega), seven (n / 128) (by omega), seven (n / 16384) (by omega)]
  intro v' w' hown' hbel
  go_wp2
  go_ret
  exact .mk hown' hbel
set_option maxRecDepth 100000 in
set_option maxHeartbeats 1000000 in
theorem appendUvarint5 (n : Nat) (h0 : 268435456 ≤ n) (h1 : n ≤ 4294967295) : AppC Tryz.prog 42 (.int .u32 n) (uv n) := by
  intro base w v bs hown hb hl
  have hu : ulen n = 5 := by unfold ulen; split <;> (try split) <;> (try split) <;> (try split) <;> omega
  rw [uv5 (by omega) (by omega)] at hl ⊢
  go_enter Tryz.func42, Tryz.ntmps42
  go_wp2_with fail
  refine (uvarintLen w n (by omega) (by omega)).mono ?_
  rintro e w' ⟨rfl, rfl⟩
  rw [hu]
  clear hu
  go_wp2_with (at_builtin; refine halted ?_)
  refine wpl_append_bytes bt rfl _ _ rfl base bs hown hb _ [UInt8.ofNat (n % 128 + 128), UInt8.ofNat (n / 128 % 128 + 128), UInt8.ofNat (n / 16384 % 128 + 128), UInt8.ofNat (n / 2097152 % 128 + 128), UInt8.ofNat (n / 268435456)] ?_ rfl hl ?_
  · simp only [List.map_cons, List.map_nil, byteV_nat (show n % 128 + 128 < 256 by omega), byteV_nat (show n / 128 % 128 + 128 < 256 by omega), byteV_nat (show n / 16384 % 128 + 128 < 256 by omega), byteV_nat (show n / 2097152 % 128 + 128 < 256 by omega), byteV_nat (show n / 268435456 < 256 by omega)]
    rw [show ((n : Int) / 128) = ((n / 128 : Nat) : Int) by omega, show ((n : Int) / 16384) = ((n / 16384 : Nat) : Int) by omega, show ((n : Int) / 2097152) = ((n / 2097152 : Nat) : Int) by omega, show ((n : Int) / 268435456) = ((n / 268435456 : Nat) : Int) by omega, seven (n) (by omega), seven (n / 128) (by omega), seven (n / 16384) (by omega), seven (n / 2097152) (by omega)]
  intro v' w' hown' hbel
  go_wp2
  go_ret
  exact .mk hown' hbel
theorem appendUvarint (n : Nat) (h : n ≤ 4294967295) : AppC Tryz.prog 42 (.int .u32 n) (uv n) := by
  by_cases h1 : n ≤ 127
  · exact appendUvarint1 n (by omega) h1
  by_cases h2 : n ≤ 16383
  · exact appendUvarint2 n (by omega) h2
  by_cases h3 : n ≤ 2097151
  · exact appendUvarint3 n (by omega) h3
  by_cases h4 : n ≤ 268435455
  · exact appendUvarint4 n (by omega) h4
  · exact appendUvarint5 n (by omega) h
theorem appendUvarintI (n : Int) (m : Nat) (e : n = m) (h : m ≤ 4294967295) : AppC Tryz.prog 42 (.int .u32 n) (uv m) := e ▸ appendUvarint m h
set_option maxRecDepth 100000 in
set_option maxHeartbeats 400000 in
theorem appendCompactArrayLen (n : Nat) (hn : n ≤ 2147483647) : AppC Tryz.prog 40 (.int .i64 n) (uv (n + 1)) := by
  intro base w v bs hown hb hl
  go_enter Tryz.func40, Tryz.ntmps40
  go_wp2_with fail
  refine (appendUvarintI _ (n + 1) (by omega) (by omega) base w v bs hown hb hl).mono ?_
  rintro e w' ⟨v', rfl, hown', hbel⟩
  go_wp2
  go_ret
  exact .mk hown' hbel
set_option maxRecDepth 100000 in
set_option maxHeartbeats 400000 in
theorem appendString (s : ByteArray) (hs : s.size ≤ 32767) : AppC Tryz.prog 39 (.string s) (be16 s.size ++ s.data.toList) := by
  intro base w v bs hown hb hl
  go_enter Tryz.func39, Tryz.ntmps39
  go_wp2_with fail
  refine (appendInt16 _ (by omega) (by omega) base w v bs hown hb (by simp only [List.length_append] at hl; omega)).mono ?_
  rintro e w' ⟨v', rfl, hown', hbel⟩
  go_wp2_with (at_builtin; refine halted ?_)
  refine wpl_append_from bt rfl _ _ rfl base _ hown' (Nat.le_trans hb hbel.size) s.data.toList (Src.ofStr Tryz.underlying9 s) (by simp only [List.length_append] at hl ⊢; omega) ?_
  intro v2 w2 hown2 hbel2
  rw [List.append_assoc] at hown2
  go_wp2
  go_ret
  exact .mk hown2 (hbel.trans hbel2)
set_option maxRecDepth 100000 in
set_option maxHeartbeats 400000 in
theorem appendCompactString (s : ByteArray) (hs : s.size ≤ 4294967294) : AppC Tryz.prog 38 (.string s) (uv (s.size + 1) ++ s.data.toList) := by
  intro base w v bs hown hb hl
  go_enter Tryz.func38, Tryz.ntmps38
  go_wp2_with fail
  refine (appendUvarintI _ (s.size + 1) (by omega) (by omega) base w v bs hown hb (by simp only [List.length_append] at hl; omega)).mono ?_
  rintro e w' ⟨v', rfl, hown', hbel⟩
  go_wp2_with (at_builtin; refine halted ?_)
  refine wpl_append_from bt rfl _ _ rfl base _ hown' (Nat.le_trans hb hbel.size) s.data.toList (Src.ofStr Tryz.underlying9 s) (by simp only [List.length_append] at hl ⊢; omega) ?_
  intro v2 w2 hown2 hbel2
  rw [List.append_assoc] at hown2
  go_wp2
  go_ret
  exact .mk hown2 (hbel.trans hbel2)

/-- A nullable text in memory below B, and what is written of it. -/
def NStr (B : Nat) (w : World) (v : Value) (s : Option ByteArray) : Prop :=
  match s with
  | none => v = .pointer none
  | some s => ∃ b o, v = .pointer (some ⟨b, o, none⟩) ∧ b < B ∧ w.cell? ⟨b, o, none⟩ = some (.string s)
theorem NStr.below {B : Nat} {w w' : World} {v : Value} {s : Option ByteArray} (h : NStr B w v s) (hk : Below B w w') : NStr B w' v s := by
  cases s with
  | none => exact h
  | some s =>
    obtain ⟨b, o, hv, hb, hc⟩ := h
    exact ⟨b, o, hv, hb, (hk.cell hb).trans hc⟩
set_option maxRecDepth 100000 in
set_option maxHeartbeats 400000 in
theorem appendNullableArrayLen_true (n : Nat) (hn : n ≤ 2147483647) (base : Nat) (w : World) (v : Value) (bs : List UInt8) (hown : Own base w v bs) (hb : base ≤ w.heap.size)
    (hl : bs.length + (be32 (-1)).length ≤ lim) : Calls Tryz.prog 37 #[v, .int .i64 n, .bool true] w (Appended base w (bs ++ be32 (-1))) := by
  go_enter Tryz.func37, Tryz.ntmps37
  go_wp2_with fail
  refine (appendInt32 (-1) (by omega) (by omega) base w v bs hown hb hl).mono ?_
  rintro e w' ⟨v', rfl, hown', hbel⟩
  go_wp2
  go_ret
  exact .mk hown' hbel
set_option maxRecDepth 100000 in
set_option maxHeartbeats 400000 in
theorem appendNullableArrayLen_false (n : Nat) (hn : n ≤ 2147483647) (base : Nat) (w : World) (v : Value) (bs : List UInt8) (hown : Own base w v bs) (hb : base ≤ w.heap.size)
    (hl : bs.length + (be32 n).length ≤ lim) : Calls Tryz.prog 37 #[v, .int .i64 n, .bool false] w (Appended base w (bs ++ be32 n)) := by
  go_enter Tryz.func37, Tryz.ntmps37
  go_wp2_with fail
  refine (appendInt32 n (by omega) (by omega) base w v bs hown hb hl).mono ?_
  rintro e w' ⟨v', rfl, hown', hbel⟩
  go_wp2
  go_ret
  exact .mk hown' hbel
set_option maxRecDepth 100000 in
set_option maxHeartbeats 400000 in
theorem appendCompactNullableArrayLen_true (n : Nat) (hn : n ≤ 2147483647) (base : Nat) (w : World) (v : Value) (bs : List UInt8) (hown : Own base w v bs) (hb : base ≤ w.heap.size)
    (hl : bs.length + (uv 0).length ≤ lim) : Calls Tryz.prog 36 #[v, .int .i64 n, .bool true] w (Appended base w (bs ++ uv 0)) := by
  go_enter Tryz.func36, Tryz.ntmps36
  go_wp2_with fail
  refine (appendUvarint 0 (by omega) base w v bs hown hb hl).mono ?_
  rintro e w' ⟨v', rfl, hown', hbel⟩
  go_wp2
  go_ret
  exact .mk hown' hbel
set_option maxRecDepth 100000 in
set_option maxHeartbeats 400000 in
theorem appendCompactNullableArrayLen_false (n : Nat) (hn : n ≤ 2147483647) (base : Nat) (w : World) (v : Value) (bs : List UInt8) (hown : Own base w v bs) (hb : base ≤ w.heap.size)
    (hl : bs.length + (uv (n + 1)).length ≤ lim) : Calls Tryz.prog 36 #[v, .int .i64 n, .bool false] w (Appended base w (bs ++ uv (n + 1))) := by
  go_enter Tryz.func36, Tryz.ntmps36
  go_wp2_with fail
  refine (appendUvarintI _ (n + 1) (by omega) (by omega) base w v bs hown hb hl).mono ?_
  rintro e w' ⟨v', rfl, hown', hbel⟩
  go_wp2
  go_ret
  exact .mk hown' hbel
end Go.Proofs.YtmpilpgabelmiaaGreatDoor
