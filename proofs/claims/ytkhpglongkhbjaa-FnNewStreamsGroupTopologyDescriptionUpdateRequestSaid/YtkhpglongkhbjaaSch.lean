/- Messages as data: what a part has (Sch), what it says (GV), and what is written of it (ap). No program in sight. -/
import Derived.Test.YtkhpglongkhbjaaPure
namespace Go.Proofs.Ytkhpglongkhbjaa

/-- The kinds of fields that are not made of others. 'nstrFrom n': a text that may be null from version n on. -/
inductive Leaf where
  | i8 | i16 | i32 | i64 | u16 | bool | uuid | str | nstr | bytes
  | nstrFrom (n : Int)

/-- A part: its fields in order, each at a cell, with the versions that have it (from, to); 'tags off': its end, the unknown tags at cell off; 'done': its end, without tags. A list: null by this version on (none: never), the cells of an element, the element. -/
inductive Sch where
  | leaf (k : Leaf)
  | list (nul : Option Int) (esz : Nat) (e : Sch)
  | opt (e : Sch)
  | done
  | tags (off : Nat)
  | cons (off : Nat) (lo : Int) (hi : Option Int) (f rest : Sch)

/-- What a part says. -/
inductive GV where
  | int (n : Int)
  | bool (b : Bool)
  | bytes (b : List UInt8)
  | null
  | list (l : List GV)
  | tags (l : List (Nat × List UInt8))
  | cons (v rest : GV)
  | unit

/-- Does a version have the field? -/
def hasV (lo : Int) (hi : Option Int) (ver : Int) : Bool := decide (lo ≤ ver) && (match hi with | none => true | some h => decide (ver ≤ h))

def lenS (flex : Bool) (n : Nat) : List UInt8 := if flex then uv (n + 1) else be16 n
def lenB (flex : Bool) (n : Nat) : List UInt8 := if flex then uv (n + 1) else be32 n
def nulS (flex : Bool) : List UInt8 := if flex then uv 0 else be16 (-1)
def nulB (flex : Bool) : List UInt8 := if flex then uv 0 else be32 (-1)

def apLeaf (ver : Int) (flex : Bool) : Leaf → GV → List UInt8
  | .i8, .int n => [bb n]
  | .i16, .int n => be16 n
  | .u16, .int n => be16 n
  | .i32, .int n => be32 n
  | .i64, .int n => be64 n
  | .bool, .bool b => [if b then 1 else 0]
  | .uuid, .bytes b => b
  | .str, .bytes b => lenS flex b.length ++ b
  | .nstr, .bytes b => lenS flex b.length ++ b
  | .nstr, .null => nulS flex
  | .nstrFrom _, .bytes b => lenS flex b.length ++ b
  | .nstrFrom n, .null => if ver < n then lenS flex 0 else nulS flex
  | .bytes, .bytes b => lenB flex b.length ++ b
  | _, _ => []

def apTags (l : List (Nat × List UInt8)) : List UInt8 := l.flatMap fun t => uv t.1 ++ uv t.2.length ++ t.2

/-- What is written of a part, a list, a field. -/
def ap (ver : Int) (flex : Bool) : Sch → GV → List UInt8
  | .leaf k, v => apLeaf ver flex k v
  | .list _ _ e, .list l => lenB flex l.length ++ l.flatMap (ap ver flex e)
  | .list _ _ _, .null => nulB flex
  | .opt _, .null => [255]
  | .opt e, v => 1 :: ap ver flex e v
  | .tags _, .tags l => if flex then uv l.length ++ apTags l else []
  | .cons _ lo hi f rest, .cons v vs => (if hasV lo hi ver then ap ver flex f v else []) ++ ap ver flex rest vs
  | _, _ => []

end Go.Proofs.Ytkhpglongkhbjaa
