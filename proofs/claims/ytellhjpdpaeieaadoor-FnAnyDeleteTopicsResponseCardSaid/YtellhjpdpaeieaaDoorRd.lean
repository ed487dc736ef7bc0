/- What is read of a part: plain functions over bytes. No program in sight. -/
import Derived.Test.YtellhjpdpaeieaaDoorRep
namespace Go.Proofs.YtellhjpdpaeieaaDoor

/-- A reading: what it finds at the front, and what is left; none: too little. -/
abbrev Pr (α : Type) := List UInt8 → Option (α × List UInt8)
def Pr.bind {α β : Type} (p : Pr α) (f : α → Pr β) : Pr β := fun bs => match p bs with
  | none => none
  | some (v, r) => f v r
def Pr.pure {α : Type} (v : α) : Pr α := fun bs => some (v, bs)
def Pr.fail {α : Type} : Pr α := fun _ => none
def rdTake (n : Nat) : Pr (List UInt8) := fun bs => if n ≤ bs.length then some (bs.take n, bs.drop n) else none
def beNat (l : List UInt8) : Nat := l.foldl (fun a b => a * 256 + b.toNat) 0
/-- A number as a signed one, m being half of all. -/
def sg (m n : Int) : Int := (n + m) % (2 * m) - m
def rdNat (k : Nat) : Pr Nat := (rdTake k).bind fun l => .pure (beNat l)
def rdInt (k : Nat) (m : Int) : Pr Int := (rdNat k).bind fun n => .pure (sg m n)
/-- A number in groups of seven bits, of at most k + 1 octets: the last one at most 15. -/
def rdUvF : Nat → Pr Nat
  | 0 => fun bs => match bs with
    | [] => none
    | b :: r => if b.toNat ≤ 15 then some (b.toNat, r) else none
  | k + 1 => fun bs => match bs with
    | [] => none
    | b :: r => if b.toNat < 128 then some (b.toNat, r) else match rdUvF k r with
      | none => none
      | some (n, r') => some (b.toNat % 128 + 128 * n, r')
def rdUv : Pr Nat := rdUvF 4
def rdStr (flex : Bool) : Pr GV := if flex then rdUv.bind fun n => if n = 0 then .fail else (rdTake (n - 1)).bind fun s => .pure (.bytes s)
  else (rdInt 2 32768).bind fun n => if n < 0 then .fail else (rdTake n.toNat).bind fun s => .pure (.bytes s)
def rdNStr (flex : Bool) : Pr GV := if flex then rdUv.bind fun n => if n = 0 then .pure .null else (rdTake (n - 1)).bind fun s => .pure (.bytes s)
  else (rdInt 2 32768).bind fun n => if n < 0 then .pure .null else (rdTake n.toNat).bind fun s => .pure (.bytes s)
def rdBytes (flex : Bool) : Pr GV := if flex then rdUv.bind fun n => if n = 0 then .pure (.bytes []) else (rdTake (n - 1)).bind fun s => .pure (.bytes s)
  else (rdInt 4 2147483648).bind fun n => if n = -1 then .pure (.bytes []) else if n < 0 then .fail else (rdTake n.toNat).bind fun s => .pure (.bytes s)
def rdLeaf (ver : Int) (flex : Bool) : Leaf → Pr GV
  | .i8 => (rdInt 1 128).bind fun n => .pure (.int n)
  | .i16 => (rdInt 2 32768).bind fun n => .pure (.int n)
  | .i32 => (rdInt 4 2147483648).bind fun n => .pure (.int n)
  | .i64 => (rdInt 8 9223372036854775808).bind fun n => .pure (.int n)
  | .u16 => (rdNat 2).bind fun n => .pure (.int n)
  | .bool => (rdNat 1).bind fun n => .pure (.bool (decide (n ≠ 0)))
  | .uuid => (rdTake 16).bind fun s => .pure (.bytes s)
  | .str => rdStr flex
  | .nstr => rdNStr flex
  | .nstrFrom m => if ver < m then rdStr flex else rdNStr flex
  | .bytes => rdBytes flex
/-- A count of things: at most as many as octets are left. -/
def rdCount (flex : Bool) : Pr Int := if flex then rdUv.bind fun n => .pure (sg 2147483648 (sg 2147483648 n - 1)) else rdInt 4 2147483648
def rdLen (flex : Bool) : Pr Int := (rdCount flex).bind fun r bs => if (bs.length : Int) < r then none else some (r, bs)
def rdMany {α : Type} (p : Pr α) : Nat → Pr (List α)
  | 0 => .pure []
  | n + 1 => p.bind fun v => (rdMany p n).bind fun l => .pure (v :: l)
def rdTag1 : Pr (Nat × List UInt8) := rdUv.bind fun k => rdUv.bind fun n => (rdTake n).bind fun v => .pure (k, v)
def rdTagsRaw : Pr (List (Nat × List UInt8)) := rdUv.bind fun n => rdMany rdTag1 n
def rdTags (flex : Bool) : Pr GV := if flex then rdTagsRaw.bind fun l => .pure (.tags (tagSort l)) else .pure (.tags [])
def nullAt (nul : Option Int) (ver : Int) : Bool := match nul with
  | none => false
  | some m => decide (m ≤ ver)
def rd (ver : Int) (flex : Bool) : Sch → Pr GV
  | .leaf k => rdLeaf ver flex k
  | .list nul _ e => (rdLen flex).bind fun n => if n < 0 ∧ nullAt nul ver = true then .pure .null else (rdMany (rd ver flex e) n.toNat).bind fun l => .pure (.list l)
  | .opt e => (rdInt 1 128).bind fun n => if n = -1 then .pure .null else rd ver flex e
  | .done => .pure .unit
  | .tags _ => rdTags flex
  | .cons _ lo hi f rest => if hasV lo hi ver then (rd ver flex f).bind fun v => (rd ver flex rest).bind fun vs => .pure (.cons v vs) else (rd ver flex rest).bind fun vs => .pure (.cons .unit vs)

/-! More behind what is read does not turn it. -/
def Mono {α : Type} (p : Pr α) : Prop := ∀ bs v r x, p bs = some (v, r) → p (bs ++ x) = some (v, r ++ x)
theorem bind_some {α β : Type} {p : Pr α} {f : α → Pr β} {bs : List UInt8} {u : β} {r : List UInt8} (h : p.bind f bs = some (u, r)) : ∃ v r', p bs = some (v, r') ∧ f v r' = some (u, r) := by
  unfold Pr.bind at h
  cases hp : p bs with
  | none => rw [hp] at h; cases h
  | some q =>
    obtain ⟨v, r'⟩ := q
    rw [hp] at h
    exact ⟨v, r', rfl, h⟩
theorem bind_eq {α β : Type} {p : Pr α} {f : α → Pr β} {bs : List UInt8} {v : α} {r : List UInt8} (h : p bs = some (v, r)) : p.bind f bs = f v r := by
  unfold Pr.bind
  rw [h]
theorem bind_none {α β : Type} {p : Pr α} {f : α → Pr β} {bs : List UInt8} (h : p bs = none) : p.bind f bs = none := by
  unfold Pr.bind
  rw [h]
theorem Mono.bind {α β : Type} {p : Pr α} {f : α → Pr β} (h : Mono p) (k : ∀ v, Mono (f v)) : Mono (p.bind f) := by
  intro bs u r x hu
  obtain ⟨v, r', h1, h2⟩ := bind_some hu
  rw [bind_eq (h _ _ _ x h1)]
  exact k v _ _ _ x h2
theorem Mono.pure {α : Type} (v : α) : Mono (Pr.pure v) := by
  intro bs u r x h
  simp only [Pr.pure, Option.some.injEq, Prod.mk.injEq] at h ⊢
  exact ⟨h.1, by rw [h.2]⟩
theorem Mono.fail {α : Type} : Mono (Pr.fail (α := α)) := fun _ _ _ _ h => by cases h
theorem Mono.ite {α : Type} {c : Prop} [Decidable c] {p q : Pr α} (h : Mono p) (k : Mono q) : Mono (if c then p else q) := by
  split
  · exact h
  · exact k
theorem Mono.take (n : Nat) : Mono (rdTake n) := by
  intro bs v r x h
  unfold rdTake at h ⊢
  split at h
  · rename_i hn
    simp only [Option.some.injEq, Prod.mk.injEq] at h
    obtain ⟨rfl, rfl⟩ := h
    rw [if_pos (by simp; omega), List.take_append_of_le_length hn, List.drop_append_of_le_length hn]
  · cases h
theorem Mono.nat (k : Nat) : Mono (rdNat k) := (Mono.take k).bind fun _ => .pure _
theorem Mono.int (k : Nat) (m : Int) : Mono (rdInt k m) := (Mono.nat k).bind fun _ => .pure _
theorem Mono.uvF : ∀ k, Mono (rdUvF k)
  | 0 => by
    intro bs v r x h
    cases bs with
    | nil => cases h
    | cons b l =>
      simp only [rdUvF, List.cons_append] at h ⊢
      split at h
      · rename_i hb
        rw [if_pos hb]
        simp only [Option.some.injEq, Prod.mk.injEq] at h ⊢
        exact ⟨h.1, by rw [h.2]⟩
      · cases h
  | k + 1 => by
    intro bs v r x h
    cases bs with
    | nil => cases h
    | cons b l =>
      simp only [rdUvF, List.cons_append] at h ⊢
      split at h
      · rename_i hb
        rw [if_pos hb]
        simp only [Option.some.injEq, Prod.mk.injEq] at h ⊢
        exact ⟨h.1, by rw [h.2]⟩
      · rename_i hb
        rw [if_neg hb]
        cases hr : rdUvF k l with
        | none => rw [hr] at h; cases h
        | some q =>
          obtain ⟨n, r'⟩ := q
          rw [hr] at h
          rw [Mono.uvF k _ _ _ x hr]
          simp only [Option.some.injEq, Prod.mk.injEq] at h ⊢
          exact ⟨h.1, by rw [h.2]⟩
theorem Mono.uv : Mono rdUv := Mono.uvF 4
theorem Mono.str (flex : Bool) : Mono (rdStr flex) := by
  unfold rdStr
  exact .ite (Mono.uv.bind fun n => .ite .fail ((Mono.take _).bind fun _ => .pure _)) ((Mono.int _ _).bind fun n => .ite .fail ((Mono.take _).bind fun _ => .pure _))
theorem Mono.nstr (flex : Bool) : Mono (rdNStr flex) := by
  unfold rdNStr
  exact .ite (Mono.uv.bind fun n => .ite (.pure _) ((Mono.take _).bind fun _ => .pure _)) ((Mono.int _ _).bind fun n => .ite (.pure _) ((Mono.take _).bind fun _ => .pure _))
theorem Mono.bytes (flex : Bool) : Mono (rdBytes flex) := by
  unfold rdBytes
  exact .ite (Mono.uv.bind fun n => .ite (.pure _) ((Mono.take _).bind fun _ => .pure _)) ((Mono.int _ _).bind fun n => .ite (.pure _) (.ite .fail ((Mono.take _).bind fun _ => .pure _)))
theorem Mono.leaf (ver : Int) (flex : Bool) (k : Leaf) : Mono (rdLeaf ver flex k) := by
  cases k
  · exact (Mono.int _ _).bind fun _ => .pure _
  · exact (Mono.int _ _).bind fun _ => .pure _
  · exact (Mono.int _ _).bind fun _ => .pure _
  · exact (Mono.int _ _).bind fun _ => .pure _
  · exact (Mono.nat _).bind fun _ => .pure _
  · exact (Mono.nat _).bind fun _ => .pure _
  · exact (Mono.take _).bind fun _ => .pure _
  · exact Mono.str flex
  · exact Mono.nstr flex
  · exact Mono.bytes flex
  · exact .ite (Mono.str flex) (Mono.nstr flex)
theorem Mono.count (flex : Bool) : Mono (rdCount flex) := by
  unfold rdCount
  exact .ite (Mono.uv.bind fun _ => .pure _) (Mono.int _ _)
theorem Mono.len (flex : Bool) : Mono (rdLen flex) := by
  refine (Mono.count flex).bind fun n => ?_
  intro bs v r x h
  simp only at h ⊢
  split at h
  · cases h
  · rename_i hn
    rw [if_neg (by simp; omega)]
    simp only [Option.some.injEq, Prod.mk.injEq] at h ⊢
    exact ⟨h.1, by rw [h.2]⟩
theorem Mono.many {α : Type} {p : Pr α} (h : Mono p) : ∀ n, Mono (rdMany p n)
  | 0 => .pure _
  | n + 1 => h.bind fun _ => (Mono.many h n).bind fun _ => .pure _
theorem Mono.tagsRaw : Mono rdTagsRaw := Mono.uv.bind fun _ => Mono.many (Mono.uv.bind fun _ => Mono.uv.bind fun _ => (Mono.take _).bind fun _ => .pure _) _
theorem Mono.tags (flex : Bool) : Mono (rdTags flex) := by
  unfold rdTags
  exact .ite (Mono.tagsRaw.bind fun _ => .pure _) (.pure _)
theorem Mono.rd (ver : Int) (flex : Bool) : ∀ s, Mono (rd ver flex s)
  | .leaf k => by unfold Proofs.YtellhjpdpaeieaaDoor.rd; exact .leaf ver flex k
  | .list nul z e => by unfold Proofs.YtellhjpdpaeieaaDoor.rd; exact (Mono.len flex).bind fun n => .ite (.pure _) ((Mono.many (Mono.rd ver flex e) _).bind fun _ => .pure _)
  | .opt e => by unfold Proofs.YtellhjpdpaeieaaDoor.rd; exact (Mono.int _ _).bind fun n => .ite (.pure _) (Mono.rd ver flex e)
  | .done => by unfold Proofs.YtellhjpdpaeieaaDoor.rd; exact .pure _
  | .tags _ => by unfold Proofs.YtellhjpdpaeieaaDoor.rd; exact .tags flex
  | .cons o lo hi f r => by
    unfold Proofs.YtellhjpdpaeieaaDoor.rd
    exact .ite ((Mono.rd ver flex f).bind fun _ => (Mono.rd ver flex r).bind fun _ => .pure _) ((Mono.rd ver flex r).bind fun _ => .pure _)
end Go.Proofs.YtellhjpdpaeieaaDoor
