/- Memory words of these proofs: blocks, bytes of the call's own, bytes that are read, what stays. No program in sight. -/
import Derived.WalkKit
import Derived.WalkSpells
import Derived.WalkLawsBesides
import Derived.Deep.AppendSrc
namespace Go.Proofs.YtpjoglnopfmjfaaDoor
open Go Go.RowKit

/-- The most bytes that are ever written one behind the other (2 to the power 44): far below the room of a slice. -/
def lim : Nat := 140737488355328
theorem lim_room {n : Nat} (h : n ≤ lim) : n * 1 ≤ 140737488355328 := by unfold lim at h; omega
theorem lim_max {n : Nat} (h : n ≤ lim) : n ≤ maxLen := by unfold lim at h; unfold maxLen; omega
theorem lim_int {n : Nat} (h : n ≤ lim) : n ≤ 9223372036854775807 := by unfold lim at h; omega

/-- A byte as a cell. -/
def byteV (b : UInt8) : Value := .int .u8 (b.toNat : Int)

/-- Block b holds the cells c. -/
def Blk (w : World) (b : Nat) (c : List Value) (T : Nat) : Prop := w.heap[b]? = some (.cells c.toArray T (0, 0))

/-- All that stood in w stands in w', but for the blocks of O. -/
structure Keeps (O : List Nat) (w w' : World) : Prop where
  os : w'.os = w.os
  tape : w'.tape = w.tape
  output : w'.output = w.output
  size : w.heap.size ≤ w'.heap.size
  block : ∀ k, k < w.heap.size → k ∉ O → w'.heap[k]? = w.heap[k]?

theorem Keeps.refl (O : List Nat) (w : World) : Keeps O w w := ⟨rfl, rfl, rfl, Nat.le_refl _, fun _ _ _ => rfl⟩
theorem Keeps.trans {O : List Nat} {a b c : World} (h : Keeps O a b) (k : Keeps O b c) : Keeps O a c :=
  ⟨k.os.trans h.os, k.tape.trans h.tape, k.output.trans h.output, Nat.le_trans h.size k.size,
   fun i hi ho => (k.block i (Nat.lt_of_lt_of_le hi h.size) ho).trans (h.block i hi ho)⟩
theorem Keeps.mono {O O' : List Nat} {w w' : World} (h : Keeps O w w') (hs : ∀ k, k ∈ O → k ∈ O') : Keeps O' w w' :=
  ⟨h.os, h.tape, h.output, h.size, fun k hk ho => h.block k hk (fun x => ho (hs k x))⟩
/-- New blocks that were open in between are none of the old. -/
theorem Keeps.close {O : List Nat} {n : Nat} {w w' : World} (h : Keeps (n :: O) w w') (hn : w.heap.size ≤ n) : Keeps O w w' :=
  ⟨h.os, h.tape, h.output, h.size, fun k hk ho => h.block k hk (by simp only [List.mem_cons, not_or]; exact ⟨by omega, ho⟩)⟩
theorem Keeps.drew {O : List Nat} {a w : World} (h : Keeps O a w) : Keeps O a w.drew := ⟨h.os, h.tape, h.output, h.size, h.block⟩
theorem Keeps.drewN {O : List Nat} {a w : World} (h : Keeps O a w) (n : Nat) : Keeps O a (w.drewN n) := ⟨h.os, h.tape, h.output, h.size, h.block⟩
theorem Keeps.alloc {O : List Nat} {a w : World} (h : Keeps O a w) (o : Obj) : Keeps O a (w.alloc o) :=
  h.trans ⟨rfl, rfl, rfl, by simp, fun k hk _ => Below.heap_alloc _ _ _ hk⟩
theorem Keeps.setCell {O : List Nat} {a w : World} (h : Keeps O a w) {p : Addr} (hp : p.block ∈ O) (u : Value) : Keeps O a (w.setCell p u) :=
  h.trans ⟨rfl, rfl, rfl, by simp [World.setCell], fun k _ ho => Below.heap_setCell _ _ _ _ (fun e => ho (e ▸ hp))⟩
theorem Keeps.setCellNew {O : List Nat} {a w : World} (h : Keeps O a w) {p : Addr} (hp : a.heap.size ≤ p.block) (u : Value) : Keeps O a (w.setCell p u) :=
  ⟨h.os, h.tape, h.output, by simpa [World.setCell] using h.size, fun k hk ho => (Below.heap_setCell _ _ _ _ (by omega)).trans (h.block k hk ho)⟩
theorem Keeps.below {O : List Nat} {B : Nat} {w w' : World} (h : Keeps O w w') (hB : B ≤ w.heap.size) (hO : ∀ k, k ∈ O → B ≤ k) : Below B w w' :=
  ⟨h.os, h.tape, h.output, h.size, fun k hk => h.block k (by omega) (fun x => by have := hO k x; omega)⟩
theorem Keeps.of_below {O : List Nat} {B : Nat} {w w' : World} (h : Below B w w') (hB : w.heap.size ≤ B) : Keeps O w w' :=
  ⟨h.os, h.tape, h.output, h.size, fun k hk _ => h.block k (by omega)⟩
theorem Keeps.grown {O : List Nat} {a w w' : World} {row : Option Nat} (h : Keeps O a w) (hg : w.grownBy w' row) (hr : ∀ k, row = some k → k ∈ O ∨ a.heap.size ≤ k) : Keeps O a w' :=
  ⟨hg.os.trans h.os, hg.tape.trans h.tape, hg.output.trans h.output, Nat.le_trans h.size hg.size,
   fun k hk ho => (hg.block k (Nat.lt_of_lt_of_le hk h.size) (fun e => by rcases hr k e.symm with x | x; exact ho x; omega)).trans (h.block k hk ho)⟩

theorem Blk.lt {w : World} {b T : Nat} {c : List Value} (h : Blk w b c T) : b < w.heap.size := (Array.getElem?_eq_some_iff.1 h).1
theorem Blk.keeps {O : List Nat} {w w' : World} {b T : Nat} {c : List Value} (h : Blk w b c T) (hk : Keeps O w w') (ho : b ∉ O) : Blk w' b c T :=
  (hk.block b h.lt ho).trans h
theorem Blk.below {w w' : World} {b T B : Nat} {c : List Value} (h : Blk w b c T) (hk : Below B w w') (hb : b < B) : Blk w' b c T :=
  (hk.block b hb).trans h
theorem Blk.cell {w : World} {b T : Nat} {c : List Value} (h : Blk w b c T) (i : Nat) : w.cell? ⟨b, i, none⟩ = c[i]? := by
  unfold Blk at h
  simp [World.cell?, h]
theorem Blk.cell_some {w : World} {b T i : Nat} {v : Value} {c : List Value} (h : Blk w b c T) (hi : c[i]? = some v) : w.cell? ⟨b, i, none⟩ = some v := (h.cell i).trans hi
theorem Blk.frozen {w : World} {b T : Nat} {c : List Value} (h : Blk w b c T) (i : Nat) : w.frozen? ⟨b, i, none⟩ = false := by
  unfold Blk at h
  simp [World.frozen?, h]
theorem Blk.set {w : World} {b T : Nat} {c : List Value} (h : Blk w b c T) (i : Nat) (v : Value) : Blk (w.setCell ⟨b, i, none⟩ v) b (c.set i v) T := by
  unfold Blk at h ⊢
  simp only [World.setCell, Array.getElem?_modify, if_true, h, Option.map_some]
  simp
theorem Blk.set_other {w : World} {b b' T : Nat} {c : List Value} (h : Blk w b c T) (hne : b ≠ b') (i : Nat) (v : Value) : Blk (w.setCell ⟨b', i, none⟩ v) b c T := by
  unfold Blk at h ⊢
  rw [Below.heap_setCell _ _ _ _ hne]
  exact h
theorem Blk.alloc {w : World} {b T : Nat} {c : List Value} (h : Blk w b c T) (o : Obj) : Blk (w.alloc o) b c T :=
  (Below.heap_alloc w o b h.lt).trans h
theorem Blk.alloc_new (w : World) (c : List Value) (T : Nat) : Blk (w.alloc (.cells c.toArray T)) w.heap.size c T := heap_alloc_new w _
theorem Blk.drew {w : World} {b T : Nat} {c : List Value} (h : Blk w b c T) : Blk w.drew b c T := h
theorem Blk.drewN {w : World} {b T : Nat} {c : List Value} (h : Blk w b c T) (n : Nat) : Blk (w.drewN n) b c T := h
theorem Blk.uniq {w : World} {b T : Nat} {c c' : List Value} (h : Blk w b c T) (h' : Blk w b c' T) : c = c' := by
  have := h.symm.trans h'
  simp at this
  exact this

/-- Bytes in memory, outside the open blocks O. -/
def RB (O : List Nat) (w : World) (v : Value) (bs : List UInt8) : Prop :=
  ∃ a cap, v = .slice a bs.length cap ∧ bs.length ≤ cap ∧ cap ≤ 9223372036854775807 ∧
    (bs ≠ [] → ∃ b o, a = some ⟨b, o, none⟩ ∧ b ∉ O ∧ ∀ i u, bs[i]? = some u → w.cell? ⟨b, o + i, none⟩ = some (byteV u))
theorem RB.keeps {O : List Nat} {w w' : World} {v : Value} {bs : List UInt8} (h : RB O w v bs) (hk : Keeps O w w') : RB O w' v bs := by
  obtain ⟨a, cap, hv, h1, h2, h3⟩ := h
  refine ⟨a, cap, hv, h1, h2, fun hne => ?_⟩
  obtain ⟨b, o, ha, hb, hc⟩ := h3 hne
  refine ⟨b, o, ha, hb, fun i u hi => ?_⟩
  have h0 := hc i u hi
  have hlt : b < w.heap.size := World.block_lt_of_cell? w _ h0
  rw [← h0]
  exact World.cell?_of_block (hk.block b hlt hb)
theorem RB.mono {O O' : List Nat} {w : World} {v : Value} {bs : List UInt8} (h : RB O w v bs) (hs : ∀ k, k ∈ O' → k ∈ O) : RB O' w v bs := by
  obtain ⟨a, cap, hv, h1, h2, h3⟩ := h
  refine ⟨a, cap, hv, h1, h2, fun hne => ?_⟩
  obtain ⟨b, o, ha, hb, hc⟩ := h3 hne
  exact ⟨b, o, ha, fun x => hb (hs b x), hc⟩
/-- A block that is new is open to nobody's bytes. -/
theorem RB.openNew {O : List Nat} {n : Nat} {w : World} {v : Value} {bs : List UInt8} (h : RB O w v bs) (hn : w.heap.size ≤ n) : RB (n :: O) w v bs := by
  obtain ⟨a, cap, hv, h1, h2, h3⟩ := h
  refine ⟨a, cap, hv, h1, h2, fun hne => ?_⟩
  obtain ⟨b, o, ha, hb, hc⟩ := h3 hne
  refine ⟨b, o, ha, ?_, hc⟩
  cases bs with
  | nil => exact absurd rfl hne
  | cons u l =>
    have hlt : b < w.heap.size := World.block_lt_of_cell? w _ (hc 0 u rfl)
    simp only [List.mem_cons, not_or]
    exact ⟨by omega, hb⟩
theorem RB.nil (O : List Nat) (w : World) : RB O w (.slice none 0 0) [] := ⟨none, 0, rfl, Nat.le_refl _, by omega, fun h => absurd rfl h⟩

/-- Bytes in memory, in a block below B. -/
def RL (B : Nat) (w : World) (v : Value) (bs : List UInt8) : Prop :=
  ∃ a cap, v = .slice a bs.length cap ∧ bs.length ≤ cap ∧ cap ≤ 9223372036854775807 ∧
    (bs ≠ [] → ∃ b o, a = some ⟨b, o, none⟩ ∧ b < B ∧ ∀ i u, bs[i]? = some u → w.cell? ⟨b, o + i, none⟩ = some (byteV u))
theorem RB.rl {O : List Nat} {w : World} {v : Value} {bs : List UInt8} (h : RB O w v bs) : RL w.heap.size w v bs := by
  obtain ⟨a, cap, hv, h1, h2, h3⟩ := h
  refine ⟨a, cap, hv, h1, h2, fun hne => ?_⟩
  obtain ⟨b, o, ha, hb, hc⟩ := h3 hne
  cases bs with
  | nil => exact absurd rfl hne
  | cons u l => exact ⟨b, o, ha, World.block_lt_of_cell? w _ (hc 0 u rfl), hc⟩
theorem RL.below {B : Nat} {w w' : World} {v : Value} {bs : List UInt8} (h : RL B w v bs) (hk : Below B w w') : RL B w' v bs := by
  obtain ⟨a, cap, hv, h1, h2, h3⟩ := h
  refine ⟨a, cap, hv, h1, h2, fun hne => ?_⟩
  obtain ⟨b, o, ha, hb, hc⟩ := h3 hne
  exact ⟨b, o, ha, hb, fun i u hi => (hk.cell hb).trans (hc i u hi)⟩

/-- Bytes of the call's own, from block base on. -/
def Own (base : Nat) (w : World) (v : Value) (bs : List UInt8) : Prop := w.ownsRow base 5 1 v bs.length (bs.map byteV)

end Go.Proofs.YtpjoglnopfmjfaaDoor
