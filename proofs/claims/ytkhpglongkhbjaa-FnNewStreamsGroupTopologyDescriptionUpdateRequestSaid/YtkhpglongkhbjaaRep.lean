/- How what a part says lies in memory. -/
import Derived.Test.YtkhpglongkhbjaaSch
import Derived.Test.YtkhpglongkhbjaaAppend
namespace Go.Proofs.Ytkhpglongkhbjaa
open Go Go.RowKit

/-- The longest text that its count can tell. -/
def strMax (flex : Bool) : Nat := if flex then 4294967294 else 32767
def bMax (flex : Bool) : Nat := if flex then 4294967294 else 2147483647

def RepLeaf (O : List Nat) (w : World) (flex : Bool) (b o : Nat) : Leaf → GV → Prop
  | .i8, .int n => w.cell? ⟨b, o, none⟩ = some (.int .i8 n) ∧ -128 ≤ n ∧ n ≤ 127
  | .i16, .int n => w.cell? ⟨b, o, none⟩ = some (.int .i16 n) ∧ -32768 ≤ n ∧ n ≤ 32767
  | .i32, .int n => w.cell? ⟨b, o, none⟩ = some (.int .i32 n) ∧ -2147483648 ≤ n ∧ n ≤ 2147483647
  | .i64, .int n => w.cell? ⟨b, o, none⟩ = some (.int .i64 n)
  | .u16, .int n => w.cell? ⟨b, o, none⟩ = some (.int .u16 n) ∧ 0 ≤ n ∧ n ≤ 65535
  | .bool, .bool x => w.cell? ⟨b, o, none⟩ = some (.bool x)
  | .uuid, .bytes l => l.length = 16 ∧ ∀ i u, l[i]? = some u → w.cell? ⟨b, o + i, none⟩ = some (byteV u)
  | .str, .bytes l => w.cell? ⟨b, o, none⟩ = some (.string ⟨l.toArray⟩) ∧ l.length ≤ strMax flex
  | .nstr, .null => w.cell? ⟨b, o, none⟩ = some (.pointer none)
  | .nstr, .bytes l => (∃ p q, w.cell? ⟨b, o, none⟩ = some (.pointer (some ⟨p, q, none⟩)) ∧ p ∉ O ∧ w.cell? ⟨p, q, none⟩ = some (.string ⟨l.toArray⟩)) ∧ l.length ≤ strMax flex
  | .nstrFrom _, .null => w.cell? ⟨b, o, none⟩ = some (.pointer none)
  | .nstrFrom _, .bytes l => (∃ p q, w.cell? ⟨b, o, none⟩ = some (.pointer (some ⟨p, q, none⟩)) ∧ p ∉ O ∧ w.cell? ⟨p, q, none⟩ = some (.string ⟨l.toArray⟩)) ∧ l.length ≤ strMax flex
  | .bytes, .bytes l => (∃ v, w.cell? ⟨b, o, none⟩ = some v ∧ RB O w v l) ∧ l.length ≤ bMax flex
  | _, _ => False

/-- A tag, laid into a list of tags by rising numbers: the last one counts. -/
def tagIns (k : Nat) (v : List UInt8) : List (Nat × List UInt8) → List (Nat × List UInt8)
  | [] => [(k, v)]
  | (j, u) :: r => if k < j then (k, v) :: (j, u) :: r else if k = j then (k, v) :: r else (j, u) :: tagIns k v r
def tagSort (l : List (Nat × List UInt8)) : List (Nat × List UInt8) := l.foldl (fun acc t => tagIns t.1 t.2 acc) []

/-- Tags in memory: none, or a map of which the entries are told in the order in which they came. -/
def RepTags (O : List Nat) (w : World) (b o : Nat) (l : List (Nat × List UInt8)) : Prop :=
  (l = [] ∧ w.cell? ⟨b, o, none⟩ = some (.map none)) ∨
  ∃ (r : Nat) (es : Array MapEntry) (kvs : List (Nat × List UInt8)), w.cell? ⟨b, o, none⟩ = some (.map (some r)) ∧ r ∉ O ∧ w.heap[r]? = some (.map es es.size) ∧ es.size = kvs.length ∧
    (∀ (i : Nat) (kv : Nat × List UInt8), kvs[i]? = some kv → ∃ e : MapEntry, es[i]? = some e ∧ e.key = .int .u32 (kv.1 : Int) ∧ kv.1 ≤ 4294967295 ∧ e.born = i ∧ RB O w e.val kv.2 ∧ kv.2.length ≤ 2147483646) ∧
    (kvs.map (·.1)).Nodup ∧ l = tagSort kvs ∧ kvs.length ≤ 2147483646

/-- Which tags a reading lets in. -/
abbrev RTags := List Nat → World → Nat → Nat → List (Nat × List UInt8) → Prop
/-- No tags at all. -/
def noTags : RTags := fun _ w b o l => l = [] ∧ w.cell? ⟨b, o, none⟩ = some (.map none)

def Rep (RT : RTags) (O : List Nat) (w : World) (ver : Int) (flex : Bool) : Sch → Nat → Nat → GV → Prop
  | .leaf k, b, o, v => RepLeaf O w flex b o k v
  | .list nul esz e, b, o, .list l => ∃ a cap, w.cell? ⟨b, o, none⟩ = some (.slice a l.length cap) ∧ l.length ≤ 2147483647 ∧ (nul.isSome = true → a.isSome = true) ∧
      (l ≠ [] → ∃ p q, a = some ⟨p, q, none⟩ ∧ p ∉ O ∧ p < w.heap.size ∧ ∀ i v, l[i]? = some v → Rep RT O w ver flex e p (q + i * esz) v)
  | .list nul _ _, b, o, .null => nul.isSome = true ∧ w.cell? ⟨b, o, none⟩ = some (.slice none 0 0)
  | .opt _, b, o, .null => w.cell? ⟨b, o, none⟩ = some (.pointer none)
  | .opt e, b, o, v => ∃ p q, w.cell? ⟨b, o, none⟩ = some (.pointer (some ⟨p, q, none⟩)) ∧ p ∉ O ∧ p < w.heap.size ∧ Rep RT O w ver flex e p q v
  | .tags off, b, o, .tags l => RT O w b (o + off) l
  | .done, _, _, .unit => True
  | .cons off lo hi f rest, b, o, .cons v vs => (hasV lo hi ver = true → Rep RT O w ver flex f b (o + off) v) ∧ Rep RT O w ver flex rest b o vs
  | _, _, _, _ => False
end Go.Proofs.Ytkhpglongkhbjaa
