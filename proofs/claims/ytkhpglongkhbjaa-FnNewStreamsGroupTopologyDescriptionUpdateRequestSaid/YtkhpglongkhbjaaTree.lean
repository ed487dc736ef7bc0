/- The reference's own words as plain functions: fields, what they say, and what is written of them. No program in sight. -/
import Derived.Test.YtkhpglongkhbjaaPure
namespace Go.Proofs.Ytkhpglongkhbjaa

/-- Fields (spec.Field), one behind the other: kind, from, to, null, tag, default, kind of things; the fields of a part. -/
inductive PFs where
  | nil
  | cons (k fr to nu tg df ok : Int) (sub rest : PFs)
def PFs.len : PFs → Nat
  | .nil => 0
  | .cons _ _ _ _ _ _ _ _ rest => rest.len + 1
/-- No field has a tag, to the bottom. -/
def PFs.noTag : PFs → Prop
  | .nil => True
  | .cons _ _ _ _ tg _ _ sub rest => tg = -1 ∧ sub.noTag ∧ rest.noTag

/-- What a field says (spec.Tree). -/
inductive Tree where
  | mk (n : Int) (s : List UInt8) (null : Bool) (l : List Tree) (u : List (Nat × List UInt8))
def Tree.n : Tree → Int | .mk n _ _ _ _ => n
def Tree.s : Tree → List UInt8 | .mk _ s _ _ _ => s
def Tree.null : Tree → Bool | .mk _ _ b _ _ => b
def Tree.l : Tree → List Tree | .mk _ _ _ l _ => l
def Tree.u : Tree → List (Nat × List UInt8) | .mk _ _ _ _ u => u
def Tree.zero : Tree := .mk 0 [] false [] []
def atT (t : Tree) (i : Nat) : Tree := t.l.getD i .zero

def fixed (n : Int) (size : Nat) : List UInt8 := if size = 1 then [bb n] else if size = 2 then be16 n else if size = 4 then be32 n else be64 n
def counted (flex null : Bool) (n size : Nat) : List UInt8 := if flex then (if null then [0] else uv (n + 1)) else if null then fixed (-1) size else fixed n size
def pWidth (k : Int) : Nat := if k = 1 then 1 else if k = 2 ∨ k = 5 then 2 else if k = 3 then 4 else 8
def whole (s : List UInt8) : List UInt8 := s.take 32767
/-- 16 octets of a text, zeros behind it. -/
def uuid16 (s : List UInt8) : List UInt8 := (s ++ List.replicate 16 0).take 16
def pNull (nu ver : Int) (t : Tree) : Bool := t.null && decide (0 ≤ nu) && decide (nu ≤ ver)

/-- What is written of a value of a kind; pp: of a part. -/
def pVal (flex : Bool) (k : Int) (pp : Tree → List UInt8) (null : Bool) (t : Tree) : List UInt8 :=
  if k = 0 then [bb (t.n % 2)]
  else if k = 7 then uuid16 t.s
  else if k = 8 then counted flex null (if null then [] else whole t.s).length 2 ++ (if null then [] else whole t.s)
  else if k = 9 then counted flex null (if null then [] else whole t.s).length 4 ++ (if null then [] else whole t.s)
  else if k = 10 then pp t
  else fixed t.n (pWidth k)
def pThings (null : Bool) (t : Tree) : List Tree := if null then [] else t.l.take 32767
def pField (ver : Int) (flex : Bool) (k nu ok : Int) (pp : Tree → List UInt8) (t : Tree) : List UInt8 :=
  if k = 11 then counted flex (pNull nu ver t) (pThings (pNull nu ver t) t).length 4 ++ (pThings (pNull nu ver t) t).flatMap (pVal flex ok pp false)
  else if k = 10 ∧ 0 ≤ nu then (if pNull nu ver t then fixed (-1) 1 else fixed 1 1 ++ pp t)
  else pVal flex k pp (pNull nu ver t) t
/-- A tag, laid into a list of tags by rising numbers: the first one counts. -/
def insU (k : Nat) (v : List UInt8) : List (Nat × List UInt8) → List (Nat × List UInt8)
  | [] => [(k, v)]
  | (j, u) :: r => if j < k then (j, u) :: insU k v r else if j = k then (j, u) :: r else (k, v) :: (j, u) :: r
def unk (l : List (Nat × List UInt8)) : List (Nat × List UInt8) := (l.take 32767).foldl (fun acc t => insU t.1 t.2 acc) []
def pTag (t : Nat × List UInt8) : List UInt8 := uv t.1 ++ uv (whole t.2).length ++ whole t.2
def pTail (flex : Bool) (t : Tree) : List UInt8 := if flex then uv (unk t.u).length ++ (unk t.u).flatMap pTag else []
def pHas (fr to ver : Int) : Bool := decide (fr ≤ ver) && (decide (to < 0) || decide (ver ≤ to))
/-- What is written of fields, from the i-th on; of those without tags. -/
def pFields (ver : Int) (flex : Bool) : PFs → Nat → Tree → List UInt8
  | .nil, _, _ => []
  | .cons k fr to nu tg _ ok sub rest, i, t =>
    (if decide (tg < 0) && pHas fr to ver then pField ver flex k nu ok (fun t' => pFields ver flex sub 0 t' ++ pTail flex t') (atT t i) else []) ++ pFields ver flex rest (i + 1) t
/-- What is written of a part. -/
def pPart (ver : Int) (flex : Bool) (fs : PFs) (t : Tree) : List UInt8 := pFields ver flex fs 0 t ++ pTail flex t

/-- What a new part says. -/
def pDefault : PFs → List Tree
  | .nil => []
  | .cons k _ _ nu _ df _ sub rest => .mk df [] (decide (0 ≤ nu)) (if k = 10 then pDefault sub else []) [] :: pDefault rest
end Go.Proofs.Ytkhpglongkhbjaa
