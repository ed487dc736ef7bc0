/- Shared texts of these proofs, laid together by merge.py: Rm, Rk, Ru, Rdw, Rdo, Rv. -/
import Derived.Test.YtkhpglongkhbjaaGreatDoorRMa
import Derived.Lib.Hide
import Derived.Lib.Endian
import Derived.Deep.RegionHeld3
import Derived.WalkMore
import Derived.ScopeJumps
import Derived.Laws.BytesString
set_option linter.unusedVariables false
/- Reading into memory: the reader, the part that is being filled, what stays. -/
namespace Go.Proofs.YtkhpglongkhbjaaGreatDoorR
open Go Go.RowKit

/-- The reader in block rb: what is left, or that it has run out. -/
def Rdr (O : List Nat) (w : World) (rb : Nat) : Option (List UInt8) → Prop
  | none => Blk w rb [.slice none 0 0, .bool true] 70
  | some bs => ∃ sv, Blk w rb [sv, .bool false] 70 ∧ RB O w sv bs ∧ bs.length ≤ lim
theorem Rdr.blk {O : List Nat} {w : World} {rb : Nat} {st : Option (List UInt8)} (h : Rdr O w rb st) : ∃ sv, Blk w rb [sv, .bool st.isNone] 70 := by
  cases st with
  | none => exact ⟨_, h⟩
  | some bs => obtain ⟨sv, h, -⟩ := h; exact ⟨sv, h⟩
theorem Rdr.other {O O' : List Nat} {w w' : World} {rb : Nat} {st : Option (List UInt8)} (h : Rdr O w rb st) (hk : Keeps O' w w') (hrb : rb ∉ O') (hO : ∀ k, k ∈ O' → k ∈ O) : Rdr O w' rb st := by
  cases st with
  | none => exact Blk.keeps h hk hrb
  | some bs =>
    obtain ⟨sv, h, hr, hl⟩ := h
    exact ⟨sv, h.keeps hk hrb, hr.keeps (hk.mono hO), hl⟩
theorem Rdr.open {O : List Nat} {w : World} {rb n : Nat} {st : Option (List UInt8)} (h : Rdr O w rb st) (hn : w.heap.size ≤ n) : Rdr (n :: O) w rb st := by
  cases st with
  | none => exact h
  | some bs =>
    obtain ⟨sv, h, hr, hl⟩ := h
    exact ⟨sv, h, hr.openNew hn, hl⟩
theorem Rdr.mono {O O' : List Nat} {w : World} {rb : Nat} {st : Option (List UInt8)} (h : Rdr O w rb st) (hO : ∀ k, k ∈ O' → k ∈ O) : Rdr O' w rb st := by
  cases st with
  | none => exact h
  | some bs =>
    obtain ⟨sv, h, hr, hl⟩ := h
    exact ⟨sv, h, hr.mono hO, hl⟩

/-- A value of a kind, as it stands in a slot ahead of its store. -/
def LV (O : List Nat) (w : World) (flex : Bool) (x : Value) : Leaf → GV → Prop
  | .i8, .int n => x = .int .i8 n ∧ -128 ≤ n ∧ n ≤ 127
  | .i16, .int n => x = .int .i16 n ∧ -32768 ≤ n ∧ n ≤ 32767
  | .i32, .int n => x = .int .i32 n ∧ -2147483648 ≤ n ∧ n ≤ 2147483647
  | .i64, .int n => x = .int .i64 n
  | .u16, .int n => x = .int .u16 n ∧ 0 ≤ n ∧ n ≤ 65535
  | .bool, .bool b => x = .bool b
  | .str, .bytes l => x = .string ⟨l.toArray⟩ ∧ l.length ≤ strMax flex
  | .nstr, .null => x = .pointer none
  | .nstr, .bytes l => (∃ p q, x = .pointer (some ⟨p, q, none⟩) ∧ p ∉ O ∧ w.cell? ⟨p, q, none⟩ = some (.string ⟨l.toArray⟩)) ∧ l.length ≤ strMax flex
  | .nstrFrom _, .null => x = .pointer none
  | .nstrFrom _, .bytes l => (∃ p q, x = .pointer (some ⟨p, q, none⟩) ∧ p ∉ O ∧ w.cell? ⟨p, q, none⟩ = some (.string ⟨l.toArray⟩)) ∧ l.length ≤ strMax flex
  | .bytes, .bytes l => RB O w x l ∧ l.length ≤ bMax flex
  | _, _ => False
theorem LV.keeps {O : List Nat} {w w' : World} {flex : Bool} {x : Value} {k : Leaf} {v : GV} (h : LV O w flex x k v) (hk : Keeps O w w') : LV O w' flex x k v := by
  cases k <;> cases v <;> simp only [LV] at h ⊢ <;> try exact h
  · obtain ⟨⟨p, q, h1, h2, h3⟩, h4⟩ := h
    exact ⟨⟨p, q, h1, h2, (World.cell?_of_block (hk.block p (World.block_lt_of_cell? w _ h3) h2)).trans h3⟩, h4⟩
  · exact ⟨h.1.keeps hk, h.2⟩
  · obtain ⟨⟨p, q, h1, h2, h3⟩, h4⟩ := h
    exact ⟨⟨p, q, h1, h2, (World.cell?_of_block (hk.block p (World.block_lt_of_cell? w _ h3) h2)).trans h3⟩, h4⟩
theorem LV.rep {O : List Nat} {w : World} {flex : Bool} {x : Value} {k : Leaf} {v : GV} {b o : Nat} (h : LV O w flex x k v) (hc : w.cell? ⟨b, o, none⟩ = some x) : RepLeaf O w flex b o k v := by
  cases k <;> cases v <;> simp only [LV] at h <;> try exact h.elim
  · obtain ⟨rfl, h1, h2⟩ := h; exact ⟨hc, h1, h2⟩
  · obtain ⟨rfl, h1, h2⟩ := h; exact ⟨hc, h1, h2⟩
  · obtain ⟨rfl, h1, h2⟩ := h; exact ⟨hc, h1, h2⟩
  · subst h; exact hc
  · obtain ⟨rfl, h1, h2⟩ := h; exact ⟨hc, h1, h2⟩
  · subst h; exact hc
  · obtain ⟨rfl, h1⟩ := h; exact ⟨hc, h1⟩
  · obtain ⟨⟨p, q, rfl, h2, h3⟩, h4⟩ := h
    exact ⟨⟨p, q, hc, h2, h3⟩, h4⟩
  · subst h; exact hc
  · exact ⟨⟨x, hc, h.1⟩, h.2⟩
  · obtain ⟨⟨p, q, rfl, h2, h3⟩, h4⟩ := h
    exact ⟨⟨p, q, hc, h2, h3⟩, h4⟩
  · subst h; exact hc

/-- Behind its last cell. -/
def top : Sch → Nat
  | .leaf .uuid => 16
  | .leaf _ => 1
  | .list _ _ _ => 1
  | .opt _ => 1
  | .done => 0
  | .tags off => off + 1
  | .cons off _ _ f rest => max (off + top f) (top rest)
/-- The cells of a part, as they are before it is read. -/
def Fresh (c : List Value) (o : Nat) : Sch → Prop
  | .leaf .uuid => o + 16 ≤ c.length
  | .leaf _ => o < c.length
  | .list _ _ _ => c[o]? = some (.slice none 0 0)
  | .opt _ => c[o]? = some (.pointer none)
  | .done => True
  | .tags off => c[o + off]? = some (.map none)
  | .cons off _ _ f rest => Fresh c (o + off) f ∧ Fresh c o rest
/-- A field that is no part within the part. -/
def single : Sch → Bool
  | .leaf _ => true
  | .list _ _ _ => true
  | .opt _ => true
  | _ => false
/-- A part whose fields lie one behind the other, from cell n on. -/
def ord : Nat → Sch → Bool
  | _, .done => true
  | n, .tags off => decide (n ≤ off)
  | n, .cons off _ _ f rest => decide (n ≤ off) && (single f || ord 0 f) && ord (off + top f) rest
  | _, _ => false
/-- Only the cells from i on, below j, have turned. -/
structure SameOut (c c' : List Value) (i j : Nat) : Prop where
  length : c'.length = c.length
  out : ∀ k, k < i ∨ j ≤ k → c'[k]? = c[k]?
theorem SameOut.refl (c : List Value) (i j : Nat) : SameOut c c i j := ⟨rfl, fun _ _ => rfl⟩
theorem SameOut.trans {c c' c'' : List Value} {i j i' j' : Nat} (h : SameOut c c' i j) (h' : SameOut c' c'' i' j') {m n : Nat} (h1 : m ≤ i ∧ m ≤ i') (h2 : j ≤ n ∧ j' ≤ n) : SameOut c c'' m n :=
  ⟨h'.length.trans h.length, fun k hk => (h'.out k (by omega)).trans (h.out k (by omega))⟩
theorem SameOut.mono {c c' : List Value} {i j m n : Nat} (h : SameOut c c' i j) (h1 : m ≤ i) (h2 : j ≤ n) : SameOut c c' m n := ⟨h.length, fun k hk => h.out k (by omega)⟩
theorem SameOut.set (c : List Value) (i : Nat) (v : Value) : SameOut c (c.set i v) i (i + 1) := ⟨by simp, fun k hk => by rw [List.getElem?_set_ne (by omega)]⟩
theorem Fresh.same : ∀ {s : Sch} {c c' : List Value} {o i j : Nat}, Fresh c o s → SameOut c c' i j → (o + top s ≤ i ∨ j ≤ o) → Fresh c' o s
  | .leaf k, c, c', o, i, j, h, hs, hd => by cases k <;> simp only [Fresh] at h ⊢ <;> (rw [hs.length]; exact h)
  | .list _ _ _, c, c', o, i, j, h, hs, hd => by simp only [top] at hd; exact (hs.out o (by omega)).trans h
  | .opt _, c, c', o, i, j, h, hs, hd => by simp only [top] at hd; exact (hs.out o (by omega)).trans h
  | .done, _, _, _, _, _, _, _, _ => trivial
  | .tags off, c, c', o, i, j, h, hs, hd => by simp only [top] at hd; exact (hs.out (o + off) (by omega)).trans h
  | .cons off lo hi f rest, c, c', o, i, j, h, hs, hd => by
    simp only [top] at hd
    exact ⟨Fresh.same h.1 hs (by omega), Fresh.same h.2 hs (by omega)⟩
/-- The same of fields from cell n on: what is below may turn. -/
theorem Fresh.behind : ∀ {s : Sch} {c c' : List Value} {o n i j : Nat}, Fresh c o s → SameOut c c' i j → ord n s = true → j ≤ o + n → Fresh c' o s
  | .done, _, _, _, _, _, _, _, _, _, _ => trivial
  | .tags off, c, c', o, n, i, j, h, hs, ho, hj => by
    simp only [ord, decide_eq_true_eq] at ho
    exact (hs.out (o + off) (by omega)).trans h
  | .cons off lo hi f rest, c, c', o, n, i, j, h, hs, ho, hj => by
    simp only [ord, Bool.and_eq_true, decide_eq_true_eq] at ho
    exact ⟨Fresh.same h.1 hs (by omega), Fresh.behind h.2 hs ho.2 (by omega)⟩
  | .leaf _, _, _, _, _, _, _, _, _, ho, _ => by cases ho
  | .list _ _ _, _, _, _, _, _, _, _, _, ho, _ => by cases ho
  | .opt _, _, _, _, _, _, _, _, _, ho, _ => by cases ho

/-- What a reading of tags must bear: it stays where the open blocks alone turn. -/
def RTKeep (RT : RTags) : Prop := ∀ (O : List Nat) (w w' : World) (b o : Nat) (l : List (Nat × List UInt8)), RT O w b o l → Keeps O w w' → w'.cell? ⟨b, o, none⟩ = w.cell? ⟨b, o, none⟩ → RT O w' b o l
/-- Open blocks that are shut. -/
def RTMono (RT : RTags) : Prop := ∀ (O O' : List Nat) (w : World) (b o : Nat) (l : List (Nat × List UInt8)), RT O w b o l → (∀ k, k ∈ O' → k ∈ O) → RT O' w b o l
theorem RepLeaf.move {O : List Nat} {w w' : World} {flex : Bool} {k : Leaf} {b o : Nat} {v : GV} (h : RepLeaf O w flex b o k v) (hk : Keeps O w w') (hc : ∀ i, i < top (.leaf k) → w'.cell? ⟨b, o + i, none⟩ = w.cell? ⟨b, o + i, none⟩) : RepLeaf O w' flex b o k v := by
  have h0 : k ≠ .uuid → w'.cell? ⟨b, o, none⟩ = w.cell? ⟨b, o, none⟩ := fun hk => hc 0 (by cases k <;> first | exact absurd rfl hk | exact Nat.zero_lt_one)
  have hp : ∀ p q x, p ∉ O → w.cell? ⟨p, q, none⟩ = some x → w'.cell? ⟨p, q, none⟩ = some x := fun p q x h2 h3 => (World.cell?_of_block (hk.block p (World.block_lt_of_cell? w _ h3) h2)).trans h3
  cases k
  case uuid =>
    cases v <;> simp only [RepLeaf] at h ⊢ <;> try exact h
    refine ⟨h.1, fun i u hi => ?_⟩
    have hlt : i < 16 := by
      rw [← h.1]
      exact (List.getElem?_eq_some_iff.1 hi).1
    rw [hc i hlt]
    exact h.2 i u hi
  all_goals
    have h1 := h0 (fun h => nomatch h)
    cases v <;> simp only [RepLeaf, h1] at h ⊢ <;> try exact h
  · obtain ⟨⟨p, q, h1, h2, h3⟩, h4⟩ := h
    exact ⟨⟨p, q, h1, h2, hp p q _ h2 h3⟩, h4⟩
  · obtain ⟨⟨x, h1, h2⟩, h4⟩ := h
    exact ⟨⟨x, h1, h2.keeps hk⟩, h4⟩
  · obtain ⟨⟨p, q, h1, h2, h3⟩, h4⟩ := h
    exact ⟨⟨p, q, h1, h2, hp p q _ h2 h3⟩, h4⟩
theorem Rep.move {RT : RTags} (hRT : RTKeep RT) {O : List Nat} {w w' : World} {ver : Int} {flex : Bool} (hk : Keeps O w w') : ∀ {s : Sch} {b o : Nat} {v : GV}, Rep RT O w ver flex s b o v → (∀ i, i < top s → w'.cell? ⟨b, o + i, none⟩ = w.cell? ⟨b, o + i, none⟩) → Rep RT O w' ver flex s b o v
  | .leaf k, b, o, v, h, hc => RepLeaf.move h hk hc
  | .list nul z e, b, o, v, h, hc => by
    have h0 : w'.cell? ⟨b, o, none⟩ = w.cell? ⟨b, o, none⟩ := hc 0 Nat.zero_lt_one
    cases v <;> simp only [Rep, h0] at h ⊢ <;> try exact h
    obtain ⟨a, cap, h1, h2, h3, h4⟩ := h
    refine ⟨a, cap, h1, h2, h3, fun hne => ?_⟩
    obtain ⟨p, q, rfl, h5, h6, h7⟩ := h4 hne
    refine ⟨p, q, rfl, h5, Nat.lt_of_lt_of_le h6 hk.size, fun i v hi => Rep.move hRT hk (h7 i v hi) fun j _ => World.cell?_of_block (hk.block p h6 h5)⟩
  | .opt e, b, o, v, h, hc => by
    have h0 : w'.cell? ⟨b, o, none⟩ = w.cell? ⟨b, o, none⟩ := hc 0 Nat.zero_lt_one
    cases v <;> simp only [Rep, h0] at h ⊢ <;> try exact h
    all_goals
      obtain ⟨p, q, h1, h5, h6, h7⟩ := h
      exact ⟨p, q, h1, h5, Nat.lt_of_lt_of_le h6 hk.size, Rep.move hRT hk h7 fun j _ => World.cell?_of_block (hk.block p h6 h5)⟩
  | .done, b, o, v, h, hc => by cases v <;> simp only [Rep] at h ⊢
  | .tags off, b, o, v, h, hc => by
    cases v <;> simp only [Rep] at h ⊢
    exact hRT _ _ _ _ _ _ h hk (hc off (by simp [top]))
  | .cons off lo hi f rest, b, o, v, h, hc => by
    cases v <;> simp only [Rep] at h ⊢ <;> try exact h
    refine ⟨fun hv => Rep.move hRT hk (h.1 hv) fun i hi => ?_, Rep.move hRT hk h.2 fun i hi => hc i (by simp only [top]; omega)⟩
    rw [Nat.add_assoc]
    exact hc (off + i) (by simp only [top]; omega)
theorem RepLeaf.mono {O O' : List Nat} {w : World} {flex : Bool} {k : Leaf} {b o : Nat} {v : GV} (hO : ∀ k, k ∈ O' → k ∈ O) (h : RepLeaf O w flex b o k v) : RepLeaf O' w flex b o k v := by
  cases k <;> cases v <;> simp only [RepLeaf] at h ⊢ <;> try exact h
  · obtain ⟨⟨p, q, h1, h2, h3⟩, h4⟩ := h
    exact ⟨⟨p, q, h1, fun x => h2 (hO p x), h3⟩, h4⟩
  · obtain ⟨⟨x, h1, h2⟩, h4⟩ := h
    exact ⟨⟨x, h1, h2.mono hO⟩, h4⟩
  · obtain ⟨⟨p, q, h1, h2, h3⟩, h4⟩ := h
    exact ⟨⟨p, q, h1, fun x => h2 (hO p x), h3⟩, h4⟩
theorem Rep.mono {RT : RTags} (hRT : RTMono RT) {O O' : List Nat} {w : World} {ver : Int} {flex : Bool} (hO : ∀ k, k ∈ O' → k ∈ O) : ∀ {s : Sch} {b o : Nat} {v : GV}, Rep RT O w ver flex s b o v → Rep RT O' w ver flex s b o v
  | .leaf k, b, o, v, h => RepLeaf.mono hO h
  | .list nul z e, b, o, v, h => by
    cases v <;> simp only [Rep] at h ⊢ <;> try exact h
    obtain ⟨a, cap, h1, h2, h3, h4⟩ := h
    refine ⟨a, cap, h1, h2, h3, fun hne => ?_⟩
    obtain ⟨p, q, rfl, h5, h6, h7⟩ := h4 hne
    exact ⟨p, q, rfl, fun x => h5 (hO p x), h6, fun i v hi => Rep.mono hRT hO (h7 i v hi)⟩
  | .opt e, b, o, v, h => by
    cases v <;> simp only [Rep] at h ⊢ <;> try exact h
    all_goals
      obtain ⟨p, q, h1, h5, h6, h7⟩ := h
      exact ⟨p, q, h1, fun x => h5 (hO p x), h6, Rep.mono hRT hO h7⟩
  | .done, b, o, v, h => by cases v <;> simp only [Rep] at h ⊢
  | .tags off, b, o, v, h => by
    cases v <;> simp only [Rep] at h ⊢
    exact hRT _ _ _ _ _ _ h hO
  | .cons off lo hi f rest, b, o, v, h => by
    cases v <;> simp only [Rep] at h ⊢ <;> try exact h
    exact ⟨fun hv => Rep.mono hRT hO (h.1 hv), Rep.mono hRT hO h.2⟩
theorem repTags_keep : RTKeep RepTags := by
  rintro O w w' b o l h hk hc
  rcases h with ⟨h1, h2⟩ | ⟨r, es, kvs, h1, h2, h3, h4, h5, h6, h7, h8⟩
  · exact .inl ⟨h1, hc.trans h2⟩
  · refine .inr ⟨r, es, kvs, hc.trans h1, h2, (hk.block r (Array.getElem?_eq_some_iff.1 h3).1 h2).trans h3, h4, fun i kv hi => ?_, h6, h7, h8⟩
    obtain ⟨e, e1, e2, e3, e4, e5, e6⟩ := h5 i kv hi
    exact ⟨e, e1, e2, e3, e4, e5.keeps hk, e6⟩
theorem repTags_mono : RTMono RepTags := by
  rintro O O' w b o l h hO
  rcases h with ⟨h1, h2⟩ | ⟨r, es, kvs, h1, h2, h3, h4, h5, h6, h7, h8⟩
  · exact .inl ⟨h1, h2⟩
  · refine .inr ⟨r, es, kvs, h1, fun x => h2 (hO r x), h3, h4, fun i kv hi => ?_, h6, h7, h8⟩
    obtain ⟨e, e1, e2, e3, e4, e5, e6⟩ := h5 i kv hi
    exact ⟨e, e1, e2, e3, e4, e5.mono hO, e6⟩
theorem Blk.same {w w' : World} {b T T' i j : Nat} {c c' : List Value} (h : Blk w b c T) (h' : Blk w' b c' T') (hs : SameOut c c' i j) (k : Nat) (hk : k < i ∨ j ≤ k) : w'.cell? ⟨b, k, none⟩ = w.cell? ⟨b, k, none⟩ := by
  rw [h.cell, h'.cell]
  exact hs.out k hk
end Go.Proofs.YtkhpglongkhbjaaGreatDoorR

/- The reader's functions read just what the plain functions say. -/
namespace Go.Proofs.YtkhpglongkhbjaaGreatDoorR
open Go Go.RowKit
set_option linter.unusedVariables false

/-- The ending of a function that reads by p from the state st on: V tells the value; D what is handed back where too little is left. -/
def RdPost {α : Type} (p : Pr α) (V : List Nat → World → Value → α → Prop) (D : Value → Prop) (O : List Nat) (rb : Nat) (w : World) (st : Option (List UInt8)) (e : Ending) (w' : World) : Prop :=
  ∃ v, e = .returned v ∧ Rdr O w' rb ((st.bind p).map (·.2)) ∧ Keeps [rb] w w' ∧ (st.bind p = none → D v) ∧ ∀ x r, st.bind p = some (x, r) → V O w' v x
/-- Function f, handed the reader, reads by p. -/
def RdC {α : Type} (P : Program) (f : Nat) (p : Pr α) (V : List Nat → World → Value → α → Prop) (D : Value → Prop) : Prop :=
  ∀ (O : List Nat) (rb : Nat) (w : World) (st : Option (List UInt8)), rb ∈ O → (∀ k, k ∈ O → k < w.heap.size) → Rdr O w rb st → Calls P f #[.pointer (some ⟨rb, 0, none⟩)] w (RdPost p V D O rb w st)
theorem RdPost.bad {α : Type} {p : Pr α} {V : List Nat → World → Value → α → Prop} {D : Value → Prop} {O : List Nat} {rb : Nat} {w w' : World} {st : Option (List UInt8)} {v : Value} (hst : st.bind p = none) (h : Rdr O w' rb none) (hk : Keeps [rb] w w') (hD : D v) : RdPost p V D O rb w st (.returned v) w' := by
  refine ⟨v, rfl, ?_, hk, fun _ => hD, fun x r hx => by rw [hst] at hx; cases hx⟩
  rw [hst]
  exact h
theorem RdPost.good {α : Type} {p : Pr α} {V : List Nat → World → Value → α → Prop} {D : Value → Prop} {O : List Nat} {rb : Nat} {w w' : World} {bs r : List UInt8} {v : Value} {x : α} (hst : p bs = some (x, r)) (h : Rdr O w' rb (some r) ∧ Keeps [rb] w w') (hV : V O w' v x) :
    RdPost p V D O rb w (some bs) (.returned v) w' := by
  refine ⟨v, rfl, ?_, h.2, (fun hx => by rw [show (some bs).bind p = _ from hst] at hx; cases hx), fun y r' hx => ?_⟩
  · rw [show (some bs).bind p = _ from hst]
    exact h.1
  · rw [show (some bs).bind p = _ from hst] at hx
    cases hx
    exact hV
theorem RdPost.good2 {α : Type} {p : Pr α} {V : List Nat → World → Value → α → Prop} {D : Value → Prop} {O : List Nat} {rb : Nat} {w w1 w' : World} {bs r : List UInt8} {v : Value} {x : α} (hst : p bs = some (x, r)) (hk : Keeps [rb] w w1)
    (h : Rdr O w' rb (some r) ∧ Keeps [rb] w1 w') (hV : V O w' v x) : RdPost p V D O rb w (some bs) (.returned v) w' := .good hst ⟨h.1, hk.trans h.2⟩ hV
theorem Rdr.parts {O : List Nat} {w : World} {rb : Nat} {bs : List UInt8} (h : Rdr O w rb (some bs)) : ∃ a cap, Blk w rb [.slice a bs.length cap, .bool false] 70 ∧ bs.length ≤ cap ∧ cap ≤ 9223372036854775807 ∧
    (bs ≠ [] → ∃ b o, a = some ⟨b, o, none⟩ ∧ b ∉ O ∧ ∀ i u, bs[i]? = some u → w.cell? ⟨b, o + i, none⟩ = some (byteV u)) ∧ bs.length ≤ lim := by
  obtain ⟨sv, h, ⟨a, cap, rfl, h1, h2, h3⟩, hl⟩ := h
  exact ⟨a, cap, h, h1, h2, h3, hl⟩
theorem Rdr.fail {O : List Nat} {w : World} {rb T : Nat} {x y : Value} (h : Blk w rb [x, y] 70) :
    Rdr O ((w.setCell ⟨rb, 1, none⟩ (.bool true)).setCell ⟨rb, 0, none⟩ (.slice none 0 0)) rb none ∧ Keeps [rb] w ((w.setCell ⟨rb, 1, none⟩ (.bool true)).setCell ⟨rb, 0, none⟩ (.slice none 0 0)) :=
  ⟨(h.set 1 (.bool true)).set 0 (.slice none 0 0), ((Keeps.refl [rb] w).setCell (List.mem_singleton.2 rfl) _).setCell (List.mem_singleton.2 rfl) _⟩
theorem RB.drop {O : List Nat} {w : World} {b o cap k : Nat} {bs : List UInt8} (h1 : bs.length ≤ cap) (h2 : cap ≤ 9223372036854775807) (hb : b ∉ O) (hc : ∀ i u, bs[i]? = some u → w.cell? ⟨b, o + i, none⟩ = some (byteV u)) (hk : k ≤ bs.length) {sv : Value}
    (hsv : sv = .slice (some ⟨b, o + k, none⟩) (bs.length - k) (cap - k) ∨ (cap = k ∧ sv = .slice (some ⟨b, o, none⟩) (bs.length - k) 0)) : RB O w sv (bs.drop k) := by
  rcases hsv with rfl | ⟨rfl, rfl⟩
  · refine ⟨some ⟨b, o + k, none⟩, cap - k, by rw [List.length_drop], by rw [List.length_drop]; omega, by omega, fun _ => ⟨b, o + k, rfl, hb, fun i u hi => ?_⟩⟩
    rw [List.getElem?_drop] at hi
    rw [Nat.add_assoc]
    exact hc _ _ hi
  · have e : bs.drop cap = [] := List.drop_eq_nil_of_le h1
    rw [e]
    refine ⟨some ⟨b, o, none⟩, 0, ?_, Nat.le_refl _, by omega, fun h => absurd rfl h⟩
    have : bs.length - cap = 0 := by omega
    rw [this]
    rfl
theorem Rdr.adv {O : List Nat} {w : World} {rb b o cap k : Nat} {x : Value} {bs : List UInt8} (hM : bs.length ≤ lim) (hrb : rb ∈ O) (h : Blk w rb [x, .bool false] 70) (h1 : bs.length ≤ cap) (h2 : cap ≤ 9223372036854775807) (hb : b ∉ O)
    (hc : ∀ i u, bs[i]? = some u → w.cell? ⟨b, o + i, none⟩ = some (byteV u)) (hk : k ≤ bs.length) {sv : Value} (hsv : sv = .slice (some ⟨b, o + k, none⟩) (bs.length - k) (cap - k) ∨ (cap = k ∧ sv = .slice (some ⟨b, o, none⟩) (bs.length - k) 0)) :
    Rdr O (w.setCell ⟨rb, 0, none⟩ sv) rb (some (bs.drop k)) ∧ Keeps [rb] w (w.setCell ⟨rb, 0, none⟩ sv) := by
  have hk2 : Keeps [rb] w (w.setCell ⟨rb, 0, none⟩ sv) := (Keeps.refl [rb] w).setCell (List.mem_singleton.2 rfl) _
  refine ⟨⟨sv, h.set 0 sv, ?_, by rw [List.length_drop]; omega⟩, hk2⟩
  exact (RB.drop h1 h2 hb hc hk hsv).keeps (hk2.mono fun k hk => by rw [List.mem_singleton.1 hk]; exact hrb)
theorem nil_or {bs : List UInt8} (k : Nat) (hk : 0 < k) : bs.length < k ∨ (k ≤ bs.length ∧ bs ≠ []) := by
  by_cases h : bs.length < k
  · exact .inl h
  · exact .inr ⟨by omega, fun e => by subst e; simp at h; omega⟩
theorem take_short {k : Nat} {bs : List UInt8} (h : bs.length < k) : rdTake k bs = none := if_neg (by omega)
theorem take_long {k : Nat} {bs : List UInt8} (h : k ≤ bs.length) : rdTake k bs = some (bs.take k, bs.drop k) := if_pos h
theorem nat_short {k : Nat} {bs : List UInt8} (h : bs.length < k) : rdNat k bs = none := bind_none (take_short h)
theorem nat_long {k : Nat} {bs : List UInt8} (h : k ≤ bs.length) : rdNat k bs = some (beNat (bs.take k), bs.drop k) := bind_eq (take_long h)
theorem int_short {k : Nat} {m : Int} {bs : List UInt8} (h : bs.length < k) : rdInt k m bs = none := bind_none (nat_short h)
theorem int_long {k : Nat} {m : Int} {bs : List UInt8} (h : k ≤ bs.length) : rdInt k m bs = some (sg m (beNat (bs.take k)), bs.drop k) := bind_eq (nat_long h)
theorem sg8 (u : Nat) (h : u < 256) : sg 128 u = IntKind.i8.wrap u := by
  simp only [sg, IntKind.wrap, IntKind.bits, IntKind.signed]
  simp
  split <;> omega
theorem sg16 (u : Nat) : sg 32768 u = IntKind.i16.wrap u := by
  simp only [sg, IntKind.wrap, IntKind.bits, IntKind.signed]
  simp
  split <;> omega
theorem sg32 (u : Nat) : sg 2147483648 u = IntKind.i32.wrap u := by
  rw [IntKind.wrap_i32]
  rfl
theorem sg64 (u : Nat) : sg 9223372036854775808 u = IntKind.i64.wrap u := by
  rw [IntKind.wrap_i64]
  rfl
theorem nat_ne0 (z : Nat) : ((z : Int) != 0) = !decide (z = 0) := by
  cases z with
  | zero => rfl
  | succ k => simp; omega
theorem keep_rb {w w' : World} {rb b o : Nat} {x y z : Value} (hb : Below w.heap.size w w') (hB : Blk w rb [x, y] 70) : Blk w' rb [x, y] 70 := hB.below hb hB.lt
theorem rInt16_bad (O : List Nat) (rb : Nat) (w : World) (a : Option Addr) (n cap : Nat) (f : Bool) (hn : n < 2) (hB : Blk w rb [.slice a n cap, .bool f] 70) : Calls Tryz.prog 31 #[.pointer (some ⟨rb, 0, none⟩)] w fun e w' => e = .returned (.int .i16 0) ∧ Rdr O w' rb none ∧ Keeps [rb] w w' := by
  have m0 := hB.cell_some (i := 0) rfl
  have m1 := hB.cell_some (i := 1) rfl
  have f0 := hB.frozen 0
  have f1 := hB.frozen 1
  have Z := Lib.hid (Rdr.fail (O := O) (T := 0) hB)
  clear hB
  go_enter Tryz.func31, Tryz.ntmps31
  go_wp2
  go_ret
  exact ⟨rfl, Z.out⟩
set_option maxHeartbeats 2000000 in
theorem rInt16 : RdC Tryz.prog 31 (rdInt 2 32768) (fun _ _ v n => v = .int .i16 n) (fun v => v = .int .i16 0) := by
  intro O rb w st hO hlt h
  cases st with
  | none => exact (rInt16_bad O rb w none 0 0 true (by omega) h).mono (by rintro e w' ⟨rfl, g1, g2⟩; exact .bad rfl g1 g2 rfl)
  | some bs =>
    obtain ⟨a, cap, hB, h1, h2, h3, hM⟩ := h.parts
    rcases nil_or (bs := bs) 2 (by omega) with hs | ⟨hl, hne⟩
    · exact (rInt16_bad O rb w a bs.length cap false hs hB).mono (by rintro e w' ⟨rfl, g1, g2⟩; exact .bad (int_short hs) g1 g2 rfl)
    obtain ⟨b, o, rfl, hb, hc⟩ := h3 hne
    have ad := fun w' (hB' : Blk w' rb [.slice (some ⟨b, o, none⟩) bs.length cap, .bool false] 70) hc' (sv : Value) => Rdr.adv (O := O) (w := w') (o := o) (k := 2) (sv := sv) hM hO hB' h1 h2 hb hc' hl
    have hrd := int_long (k := 2) (m := 32768) hl
    obtain ⟨u0, u1, r, rfl⟩ : ∃ u0 u1 r, bs = u0 :: u1 :: r := match bs, hl with
    | [], h => absurd h (by simp)
    | [_], h => absurd h (by simp)
    | u0 :: u1 :: r, _ => ⟨_, _, _, rfl⟩
    have c0 := hc 0 u0 rfl
    have c1 := hc 1 u1 rfl
    have m0 := hB.cell_some (i := 0) rfl
    have f0 := hB.frozen 0
    have et : (u0 :: u1 :: r).take 2 = [u0, u1] := rfl
    rw [et] at hrd
    have eb : beNat [u0, u1] = Lib.beNat [u0, u1] := by simp [beNat, Lib.beNat, Lib.beFrom]
    rw [eb] at hrd
    rw [sg16] at hrd
    have BE := fun w' (hw : w'.heap = w.heap) => Tryz.binary_BE_Uint16 b o (u0 :: u1 :: r).length cap u0 u1 w' (by simp) (by rw [show w'.cell? _ = w.cell? _ from World.cell?_of_block (by rw [hw])]; exact c0) (by rw [show w'.cell? _ = w.cell? _ from World.cell?_of_block (by rw [hw])]; exact c1)
    have Z := Lib.hid (fun w' (hw : Below w.heap.size w w') sv hsv => ad w' (hB.below hw hB.lt) (fun i u hi => (hw.cell (p := ⟨b, o + i, none⟩) (World.block_lt_of_cell? w _ (hc i u hi))).trans (hc i u hi)) sv hsv)
    have HB := Lib.hid hB
    have BEh := Lib.hid BE
    have HRD := Lib.hid hrd
    have hlen := hl
    clear BE ad hB h hlt hc h3 hne eb hlen hM c0 c1
    generalize (u0 :: u1 :: r).length = n at *
    go_enter Tryz.func31, Tryz.ntmps31
    go_wp2_with fail
    go_region_held3 (fun w' => w'.cell? ⟨rb, 0, none⟩ = some (.slice (some ⟨b, o, none⟩) n cap)) (first | exact hS2 | exact m0)
      (first | (go_at_call 64; refine (BEh.out w.drew rfl).mono ?_; rintro e w2 ⟨rfl, hb2⟩; have hS2 := (HB.out.drew.below hb2 HB.out.lt).cell_some (i := 0) rfl))
    have hbw : Below w.heap.size w w2 := (Below.refl _ _).drew.trans hb2
    have hB2 := HB.out.below hbw HB.out.lt
    have m2 := hB2.cell_some (i := 0) rfl
    have f2 := hB2.frozen 0
    have Z2 := Lib.hid (Z.out w2 hbw)
    have KW := Lib.hid (Keeps.of_below (O := [rb]) hbw (Nat.le_refl _))
    clear hbw hB2 hb2 f0 m0 hS2
    go_wp2
    all_goals go_ret
    all_goals exact .good2 HRD.out KW.out (Z2.out _ (by first | exact .inl rfl | exact .inr ⟨by assumption, rfl⟩)) rfl
theorem rInt32_bad (O : List Nat) (rb : Nat) (w : World) (a : Option Addr) (n cap : Nat) (f : Bool) (hn : n < 4) (hB : Blk w rb [.slice a n cap, .bool f] 70) : Calls Tryz.prog 36 #[.pointer (some ⟨rb, 0, none⟩)] w fun e w' => e = .returned (.int .i32 0) ∧ Rdr O w' rb none ∧ Keeps [rb] w w' := by
  have m0 := hB.cell_some (i := 0) rfl
  have m1 := hB.cell_some (i := 1) rfl
  have f0 := hB.frozen 0
  have f1 := hB.frozen 1
  have Z := Lib.hid (Rdr.fail (O := O) (T := 0) hB)
  clear hB
  go_enter Tryz.func36, Tryz.ntmps36
  go_wp2
  go_ret
  exact ⟨rfl, Z.out⟩
set_option maxHeartbeats 2000000 in
theorem rInt32 : RdC Tryz.prog 36 (rdInt 4 2147483648) (fun _ _ v n => v = .int .i32 n) (fun v => v = .int .i32 0) := by
  intro O rb w st hO hlt h
  cases st with
  | none => exact (rInt32_bad O rb w none 0 0 true (by omega) h).mono (by rintro e w' ⟨rfl, g1, g2⟩; exact .bad rfl g1 g2 rfl)
  | some bs =>
    obtain ⟨a, cap, hB, h1, h2, h3, hM⟩ := h.parts
    rcases nil_or (bs := bs) 4 (by omega) with hs | ⟨hl, hne⟩
    · exact (rInt32_bad O rb w a bs.length cap false hs hB).mono (by rintro e w' ⟨rfl, g1, g2⟩; exact .bad (int_short hs) g1 g2 rfl)
    obtain ⟨b, o, rfl, hb, hc⟩ := h3 hne
    have ad := fun w' (hB' : Blk w' rb [.slice (some ⟨b, o, none⟩) bs.length cap, .bool false] 70) hc' (sv : Value) => Rdr.adv (O := O) (w := w') (o := o) (k := 4) (sv := sv) hM hO hB' h1 h2 hb hc' hl
    have hrd := int_long (k := 4) (m := 2147483648) hl
    obtain ⟨u0, u1, u2, u3, r, rfl⟩ : ∃ u0 u1 u2 u3 r, bs = u0 :: u1 :: u2 :: u3 :: r := match bs, hl with
    | [], h => absurd h (by simp)
    | [_], h => absurd h (by simp)
    | [_, _], h => absurd h (by simp)
    | [_, _, _], h => absurd h (by simp)
    | u0 :: u1 :: u2 :: u3 :: r, _ => ⟨_, _, _, _, _, rfl⟩
    have c0 := hc 0 u0 rfl
    have c1 := hc 1 u1 rfl
    have c2 := hc 2 u2 rfl
    have c3 := hc 3 u3 rfl
    have m0 := hB.cell_some (i := 0) rfl
    have f0 := hB.frozen 0
    have et : (u0 :: u1 :: u2 :: u3 :: r).take 4 = [u0, u1, u2, u3] := rfl
    rw [et] at hrd
    have eb : beNat [u0, u1, u2, u3] = Lib.beNat [u0, u1, u2, u3] := by simp [beNat, Lib.beNat, Lib.beFrom]
    rw [eb] at hrd
    rw [sg32] at hrd
    have BE := fun w' (hw : w'.heap = w.heap) => Tryz.binary_BE_Uint32 b o (u0 :: u1 :: u2 :: u3 :: r).length cap u0 u1 u2 u3 w' (by simp) (by rw [show w'.cell? _ = w.cell? _ from World.cell?_of_block (by rw [hw])]; exact c0) (by rw [show w'.cell? _ = w.cell? _ from World.cell?_of_block (by rw [hw])]; exact c1) (by rw [show w'.cell? _ = w.cell? _ from World.cell?_of_block (by rw [hw])]; exact c2) (by rw [show w'.cell? _ = w.cell? _ from World.cell?_of_block (by rw [hw])]; exact c3)
    have Z := Lib.hid (fun w' (hw : Below w.heap.size w w') sv hsv => ad w' (hB.below hw hB.lt) (fun i u hi => (hw.cell (p := ⟨b, o + i, none⟩) (World.block_lt_of_cell? w _ (hc i u hi))).trans (hc i u hi)) sv hsv)
    have HB := Lib.hid hB
    have BEh := Lib.hid BE
    have HRD := Lib.hid hrd
    have hlen := hl
    clear BE ad hB h hlt hc h3 hne eb hlen hM c0 c1 c2 c3
    generalize (u0 :: u1 :: u2 :: u3 :: r).length = n at *
    go_enter Tryz.func36, Tryz.ntmps36
    go_wp2_with fail
    go_region_held3 (fun w' => w'.cell? ⟨rb, 0, none⟩ = some (.slice (some ⟨b, o, none⟩) n cap)) (first | exact hS2 | exact m0)
      (first | (go_at_call 68; refine (BEh.out w.drew rfl).mono ?_; rintro e w2 ⟨rfl, hb2⟩; have hS2 := (HB.out.drew.below hb2 HB.out.lt).cell_some (i := 0) rfl))
    have hbw : Below w.heap.size w w2 := (Below.refl _ _).drew.trans hb2
    have hB2 := HB.out.below hbw HB.out.lt
    have m2 := hB2.cell_some (i := 0) rfl
    have f2 := hB2.frozen 0
    have Z2 := Lib.hid (Z.out w2 hbw)
    have KW := Lib.hid (Keeps.of_below (O := [rb]) hbw (Nat.le_refl _))
    clear hbw hB2 hb2 f0 m0 hS2
    go_wp2
    all_goals go_ret
    all_goals exact .good2 HRD.out KW.out (Z2.out _ (by first | exact .inl rfl | exact .inr ⟨by assumption, rfl⟩)) rfl
theorem rReadUint64_bad (O : List Nat) (rb : Nat) (w : World) (a : Option Addr) (n cap : Nat) (f : Bool) (hn : n < 8) (hB : Blk w rb [.slice a n cap, .bool f] 70) : Calls Tryz.prog 69 #[.pointer (some ⟨rb, 0, none⟩)] w fun e w' => e = .returned (.int .u64 0) ∧ Rdr O w' rb none ∧ Keeps [rb] w w' := by
  have m0 := hB.cell_some (i := 0) rfl
  have m1 := hB.cell_some (i := 1) rfl
  have f0 := hB.frozen 0
  have f1 := hB.frozen 1
  have Z := Lib.hid (Rdr.fail (O := O) (T := 0) hB)
  clear hB
  go_enter Tryz.func69, Tryz.ntmps69
  go_wp2
  go_ret
  exact ⟨rfl, Z.out⟩
set_option maxHeartbeats 2000000 in
theorem rReadUint64 : RdC Tryz.prog 69 (rdNat 8) (fun _ _ v n => v = .int .u64 n) (fun v => v = .int .u64 0) := by
  intro O rb w st hO hlt h
  cases st with
  | none => exact (rReadUint64_bad O rb w none 0 0 true (by omega) h).mono (by rintro e w' ⟨rfl, g1, g2⟩; exact .bad rfl g1 g2 rfl)
  | some bs =>
    obtain ⟨a, cap, hB, h1, h2, h3, hM⟩ := h.parts
    rcases nil_or (bs := bs) 8 (by omega) with hs | ⟨hl, hne⟩
    · exact (rReadUint64_bad O rb w a bs.length cap false hs hB).mono (by rintro e w' ⟨rfl, g1, g2⟩; exact .bad (nat_short hs) g1 g2 rfl)
    obtain ⟨b, o, rfl, hb, hc⟩ := h3 hne
    have ad := fun w' (hB' : Blk w' rb [.slice (some ⟨b, o, none⟩) bs.length cap, .bool false] 70) hc' (sv : Value) => Rdr.adv (O := O) (w := w') (o := o) (k := 8) (sv := sv) hM hO hB' h1 h2 hb hc' hl
    have hrd := nat_long (k := 8) hl
    obtain ⟨u0, u1, u2, u3, u4, u5, u6, u7, r, rfl⟩ : ∃ u0 u1 u2 u3 u4 u5 u6 u7 r, bs = u0 :: u1 :: u2 :: u3 :: u4 :: u5 :: u6 :: u7 :: r := match bs, hl with
    | [], h => absurd h (by simp)
    | [_], h => absurd h (by simp)
    | [_, _], h => absurd h (by simp)
    | [_, _, _], h => absurd h (by simp)
    | [_, _, _, _], h => absurd h (by simp)
    | [_, _, _, _, _], h => absurd h (by simp)
    | [_, _, _, _, _, _], h => absurd h (by simp)
    | [_, _, _, _, _, _, _], h => absurd h (by simp)
    | u0 :: u1 :: u2 :: u3 :: u4 :: u5 :: u6 :: u7 :: r, _ => ⟨_, _, _, _, _, _, _, _, _, rfl⟩
    have c0 := hc 0 u0 rfl
    have c1 := hc 1 u1 rfl
    have c2 := hc 2 u2 rfl
    have c3 := hc 3 u3 rfl
    have c4 := hc 4 u4 rfl
    have c5 := hc 5 u5 rfl
    have c6 := hc 6 u6 rfl
    have c7 := hc 7 u7 rfl
    have m0 := hB.cell_some (i := 0) rfl
    have f0 := hB.frozen 0
    have et : (u0 :: u1 :: u2 :: u3 :: u4 :: u5 :: u6 :: u7 :: r).take 8 = [u0, u1, u2, u3, u4, u5, u6, u7] := rfl
    rw [et] at hrd
    have eb : beNat [u0, u1, u2, u3, u4, u5, u6, u7] = Lib.beNat [u0, u1, u2, u3, u4, u5, u6, u7] := by simp [beNat, Lib.beNat, Lib.beFrom]
    rw [eb] at hrd
    have BE := fun w' (hw : w'.heap = w.heap) => Tryz.binary_BE_Uint64 b o (u0 :: u1 :: u2 :: u3 :: u4 :: u5 :: u6 :: u7 :: r).length cap u0 u1 u2 u3 u4 u5 u6 u7 w' (by simp) (by rw [show w'.cell? _ = w.cell? _ from World.cell?_of_block (by rw [hw])]; exact c0) (by rw [show w'.cell? _ = w.cell? _ from World.cell?_of_block (by rw [hw])]; exact c1) (by rw [show w'.cell? _ = w.cell? _ from World.cell?_of_block (by rw [hw])]; exact c2) (by rw [show w'.cell? _ = w.cell? _ from World.cell?_of_block (by rw [hw])]; exact c3) (by rw [show w'.cell? _ = w.cell? _ from World.cell?_of_block (by rw [hw])]; exact c4) (by rw [show w'.cell? _ = w.cell? _ from World.cell?_of_block (by rw [hw])]; exact c5) (by rw [show w'.cell? _ = w.cell? _ from World.cell?_of_block (by rw [hw])]; exact c6) (by rw [show w'.cell? _ = w.cell? _ from World.cell?_of_block (by rw [hw])]; exact c7)
    have Z := Lib.hid (fun w' (hw : Below w.heap.size w w') sv hsv => ad w' (hB.below hw hB.lt) (fun i u hi => (hw.cell (p := ⟨b, o + i, none⟩) (World.block_lt_of_cell? w _ (hc i u hi))).trans (hc i u hi)) sv hsv)
    have HB := Lib.hid hB
    have BEh := Lib.hid BE
    have HRD := Lib.hid hrd
    have hlen := hl
    clear BE ad hB h hlt hc h3 hne eb hlen hM c0 c1 c2 c3 c4 c5 c6 c7
    generalize (u0 :: u1 :: u2 :: u3 :: u4 :: u5 :: u6 :: u7 :: r).length = n at *
    go_enter Tryz.func69, Tryz.ntmps69
    go_wp2_with fail
    go_region_held3 (fun w' => w'.cell? ⟨rb, 0, none⟩ = some (.slice (some ⟨b, o, none⟩) n cap)) (first | exact hS2 | exact m0)
      (first | (go_at_call 80; refine (BEh.out w.drew rfl).mono ?_; rintro e w2 ⟨rfl, hb2⟩; have hS2 := (HB.out.drew.below hb2 HB.out.lt).cell_some (i := 0) rfl))
    have hbw : Below w.heap.size w w2 := (Below.refl _ _).drew.trans hb2
    have hB2 := HB.out.below hbw HB.out.lt
    have m2 := hB2.cell_some (i := 0) rfl
    have f2 := hB2.frozen 0
    have Z2 := Lib.hid (Z.out w2 hbw)
    have KW := Lib.hid (Keeps.of_below (O := [rb]) hbw (Nat.le_refl _))
    clear hbw hB2 hb2 f0 m0 hS2
    go_wp2
    all_goals go_ret
    all_goals exact .good2 HRD.out KW.out (Z2.out _ (by first | exact .inl rfl | exact .inr ⟨by assumption, rfl⟩)) rfl

theorem RB.dropG {O : List Nat} {w : World} {a : Option Addr} {cap k : Nat} {bs : List UInt8} (h : RB O w (.slice a bs.length cap) bs) (hk : k ≤ bs.length) {sv : Value}
    (hsv : sv = .slice (a.map fun x => x.add k) (bs.length - k) (cap - k) ∨ (cap = k ∧ sv = .slice a (bs.length - k) 0)) : RB O w sv (bs.drop k) := by
  obtain ⟨a', cap', e, h1, h2, h3⟩ := h
  cases e
  by_cases hne : bs = []
  · subst hne
    have : k = 0 := by simpa using hk
    subst this
    rcases hsv with rfl | ⟨rfl, rfl⟩
    · exact ⟨_, cap, rfl, by simp, h2, fun h => absurd rfl h⟩
    · exact ⟨_, 0, rfl, by simp, by omega, fun h => absurd rfl h⟩
  · obtain ⟨b, o, rfl, hb, hc⟩ := h3 hne
    refine RB.drop h1 h2 hb hc hk ?_
    rcases hsv with rfl | ⟨h4, rfl⟩
    · exact .inl (by simp [Addr.add])
    · exact .inr ⟨h4, rfl⟩
theorem RB.takeG {O : List Nat} {w : World} {a : Option Addr} {cap k : Nat} {bs : List UInt8} (h : RB O w (.slice a bs.length cap) bs) (hk : k ≤ bs.length) : RB O w (.slice a k k) (bs.take k) := by
  obtain ⟨a', cap', e, h1, h2, h3⟩ := h
  cases e
  refine ⟨a, k, by rw [List.length_take, Nat.min_eq_left hk], by rw [List.length_take]; omega, by omega, fun hne => ?_⟩
  have hb : bs ≠ [] := by rintro rfl; exact hne (by simp)
  obtain ⟨b, o, ha, hO, hc⟩ := h3 hb
  refine ⟨b, o, ha, hO, fun i u hi => hc i u ?_⟩
  rw [List.getElem?_take] at hi
  split at hi
  · exact hi
  · cases hi
theorem Rdr.advG {O : List Nat} {w : World} {rb cap k : Nat} {x : Value} {a : Option Addr} {bs : List UInt8} (hM : bs.length ≤ lim) (hrb : rb ∈ O) (h : Blk w rb [x, .bool false] 70) (hr : RB O w (.slice a bs.length cap) bs) (hk : k ≤ bs.length) {sv : Value}
    (hsv : sv = .slice (a.map fun x => x.add k) (bs.length - k) (cap - k) ∨ (cap = k ∧ sv = .slice a (bs.length - k) 0)) :
    Rdr O (w.setCell ⟨rb, 0, none⟩ sv) rb (some (bs.drop k)) ∧ Keeps [rb] w (w.setCell ⟨rb, 0, none⟩ sv) := by
  have hk2 : Keeps [rb] w (w.setCell ⟨rb, 0, none⟩ sv) := (Keeps.refl [rb] w).setCell (List.mem_singleton.2 rfl) _
  exact ⟨⟨sv, h.set 0 sv, (hr.dropG hk hsv).keeps (hk2.mono fun k hk => by rw [List.mem_singleton.1 hk]; exact hrb), by rw [List.length_drop]; omega⟩, hk2⟩
def rdSpan (l : Int) : Pr (List UInt8) := if l < 0 then .fail else rdTake l.toNat
set_option maxHeartbeats 1000000 in
theorem rSpan_bad (O : List Nat) (rb : Nat) (w : World) (a : Option Addr) (n cap : Nat) (f : Bool) (l : Int) (hn : (n : Int) < l ∨ l < 0) (hB : Blk w rb [.slice a n cap, .bool f] 70) :
    Calls Tryz.prog 67 #[.pointer (some ⟨rb, 0, none⟩), .int .i64 l] w fun e w' => e = .returned (.slice none 0 0) ∧ Rdr O w' rb none ∧ Keeps [rb] w w' := by
  have m0 := hB.cell_some (i := 0) rfl
  have m1 := hB.cell_some (i := 1) rfl
  have f0 := hB.frozen 0
  have f1 := hB.frozen 1
  have Z := Lib.hid (Rdr.fail (O := O) (T := 0) hB)
  clear hB
  by_cases hx : (n : Int) < l
  · clear hn
    go_enter Tryz.func67, Tryz.ntmps67
    go_wp2
    go_ret
    exact ⟨rfl, Z.out⟩
  · have hl : l < 0 := by omega
    clear hn
    go_enter Tryz.func67, Tryz.ntmps67
    go_wp2
    go_ret
    exact ⟨rfl, Z.out⟩
inductive SpanOk (rb : Nat) (w : World) (a : Option Addr) (n cap : Nat) (l : Int) (e : Ending) (w' : World) : Prop
  | mk {sv : Value} (he : e = .returned (.slice a l.toNat l.toNat)) (hw : w' = w.setCell ⟨rb, 0, none⟩ sv) (hsv : sv = .slice (a.map fun x => x.add l.toNat) (n - l.toNat) (cap - l.toNat) ∨ (cap = l.toNat ∧ sv = .slice a (n - l.toNat) 0)) : SpanOk rb w a n cap l e w'
set_option maxHeartbeats 1000000 in
theorem rSpan_ok (rb : Nat) (w : World) (a : Option Addr) (n cap : Nat) (f : Bool) (l : Int) (h0 : 0 ≤ l) (hn : l ≤ n) (h1 : n ≤ cap) (h2 : cap ≤ 9223372036854775807) (hB : Blk w rb [.slice a n cap, .bool f] 70) :
    Calls Tryz.prog 67 #[.pointer (some ⟨rb, 0, none⟩), .int .i64 l] w (SpanOk rb w a n cap l) := by
  have m0 := hB.cell_some (i := 0) rfl
  have f0 := hB.frozen 0
  clear hB
  go_enter Tryz.func67, Tryz.ntmps67
  go_wp2
  all_goals go_ret
  all_goals refine SpanOk.mk rfl rfl ?_
  · exact .inr ⟨by first | rfl | assumption, rfl⟩
  · exact .inl rfl
theorem rSpan (O : List Nat) (rb : Nat) (w : World) (st : Option (List UInt8)) (l : Int) (hO : rb ∈ O) (hlt : ∀ k, k ∈ O → k < w.heap.size) (h : Rdr O w rb st) :
    Calls Tryz.prog 67 #[.pointer (some ⟨rb, 0, none⟩), .int .i64 l] w (RdPost (rdSpan l) (fun O w v s => RB O w v s) (fun v => v = .slice none 0 0) O rb w st) := by
  cases st with
  | none =>
    by_cases hl : l = 0
    · subst hl
      refine (rSpan_ok rb w none 0 0 true 0 (by omega) (by omega) (by omega) (by omega) h).mono ?_
      rintro e w' ⟨rfl, rfl, hsv⟩
      rename_i sv
      have e : sv = .slice none 0 0 := by rcases hsv with rfl | ⟨-, rfl⟩ <;> rfl
      subst e
      exact .bad rfl (Blk.set h 0 _) ((Keeps.refl [rb] w).setCell (List.mem_singleton.2 rfl) _) rfl
    · exact (rSpan_bad O rb w none 0 0 true l (by omega) h).mono (by rintro e w' ⟨rfl, g1, g2⟩; exact .bad rfl g1 g2 rfl)
  | some bs =>
    obtain ⟨sv, hB, hr, hM⟩ := h
    obtain ⟨a, cap, rfl, h1, h2, h3⟩ := id hr
    by_cases hl : (bs.length : Int) < l ∨ l < 0
    · refine (rSpan_bad O rb w a bs.length cap false l hl hB).mono ?_
      rintro e w' ⟨rfl, g1, g2⟩
      refine .bad ?_ g1 g2 rfl
      change rdSpan l bs = none
      unfold rdSpan
      split
      · rfl
      · exact take_short (by omega)
    · refine (rSpan_ok rb w a bs.length cap false l (by omega) (by omega) h1 h2 hB).mono ?_
      rintro e w' ⟨rfl, rfl, hsv⟩
      rename_i sv
      have e : rdSpan l bs = some (bs.take l.toNat, bs.drop l.toNat) := by
        unfold rdSpan
        rw [if_neg (by omega)]
        exact take_long (by omega)
      have hz := Rdr.advG hM hO hB hr (k := l.toNat) (by omega) hsv
      exact .good e hz ((hr.takeG (by omega)).keeps (hz.2.mono fun k hk => by rw [List.mem_singleton.1 hk]; exact hO))
end Go.Proofs.YtkhpglongkhbjaaGreatDoorR

/- The reader's numbers in groups of seven bits. -/
namespace Go.Proofs.YtkhpglongkhbjaaGreatDoorR
open Go Go.RowKit
set_option linter.unusedVariables false

theorem u8and127 (n : Nat) (h : n < 256) : bits BinOp.and IntKind.u8 (n : Int) 127 = ((n % 128 : Nat) : Int) := by
  have e := Nat.and_two_pow_sub_one_eq_mod n 7
  have e2 : bits BinOp.and IntKind.u8 (n : Int) 127 = IntKind.u8.wrap (((BitVec.ofNat 8 n &&& BitVec.ofNat 8 127).toNat : Nat) : Int) := by
    unfold bits
    rfl
  have e3 : (BitVec.ofNat 8 n &&& BitVec.ofNat 8 127).toNat = n % 128 := by
    rw [BitVec.toNat_and, BitVec.toNat_ofNat, BitVec.toNat_ofNat, Nat.mod_eq_of_lt h]
    exact e
  rw [e2, e3, IntKind.wrap_u8]
  omega
theorem u8and128 : ∀ (n : Nat) (h : n < 256), bits BinOp.and IntKind.u8 (n : Int) 128 = if n < 128 then 0 else 128 := by
  have h : ∀ n : Fin 256, bits BinOp.and IntKind.u8 ((n.val : Nat) : Int) 128 = if n.val < 128 then 0 else 128 := by decide +kernel
  exact fun n hn => h ⟨n, hn⟩
theorem u32or (a y k m : Nat) (hk : (k = 7 ∧ m = 128) ∨ (k = 14 ∧ m = 16384) ∨ (k = 21 ∧ m = 2097152) ∨ (k = 28 ∧ m = 268435456)) (ha : a < m) (hy : y * m < 4294967296) : bits BinOp.or IntKind.u32 (a : Int) ((y * m : Nat) : Int) = ((a + m * y : Nat) : Int) := by
  have hm : m = 2 ^ k := by rcases hk with ⟨rfl, rfl⟩ | ⟨rfl, rfl⟩ | ⟨rfl, rfl⟩ | ⟨rfl, rfl⟩ <;> rfl
  have e := Nat.two_pow_add_eq_or_of_lt (i := k) (b := a) (hm ▸ ha) y
  rw [← hm] at e
  have h2 : a < 4294967296 := by rcases hk with ⟨rfl, rfl⟩ | ⟨rfl, rfl⟩ | ⟨rfl, rfl⟩ | ⟨rfl, rfl⟩ <;> omega
  have h3 : a + m * y < 4294967296 := by rcases hk with ⟨rfl, rfl⟩ | ⟨rfl, rfl⟩ | ⟨rfl, rfl⟩ | ⟨rfl, rfl⟩ <;> omega
  have e2 : bits BinOp.or IntKind.u32 (a : Int) ((y * m : Nat) : Int) = IntKind.u32.wrap (((BitVec.ofNat 32 a ||| BitVec.ofNat 32 (y * m)).toNat : Nat) : Int) := by
    unfold bits
    rfl
  have e3 : (BitVec.ofNat 32 a ||| BitVec.ofNat 32 (y * m)).toNat = a + m * y := by
    rw [BitVec.toNat_or, BitVec.toNat_ofNat, BitVec.toNat_ofNat, Nat.mod_eq_of_lt h2, Nat.mod_eq_of_lt hy, Nat.or_comm, Nat.mul_comm y m, ← e]
    omega
  rw [e2, e3, IntKind.wrap_u32]
  omega
/-- The same as the walk spells it. -/
theorem u32or' (a y k m : Nat) (mi : Int) (hmi : mi = (m : Nat)) (hk : (k = 7 ∧ m = 128) ∨ (k = 14 ∧ m = 16384) ∨ (k = 21 ∧ m = 2097152) ∨ (k = 28 ∧ m = 268435456)) (ha : a < m) (hy : y * m < 4294967296) : bits BinOp.or IntKind.u32 (a : Int) ((y : Int) % 4294967296 * mi % 4294967296) = ((a + m * y : Nat) : Int) := by
  subst hmi
  have e : (y : Int) % 4294967296 * (m : Int) % 4294967296 = ((y * m : Nat) : Int) := by
    have hy0 : y < 4294967296 := by rcases hk with ⟨rfl, rfl⟩ | ⟨rfl, rfl⟩ | ⟨rfl, rfl⟩ | ⟨rfl, rfl⟩ <;> omega
    have e1 : (y : Int) % 4294967296 = y := by omega
    have e2 : ((y * m : Nat) : Int) % 4294967296 = ((y * m : Nat) : Int) := by omega
    rw [e1, ← Int.natCast_mul, e2]
  rw [e]
  exact u32or a y k m hk ha hy
theorem u32or4 (a y : Nat) (ha : a < 268435456) (hy : y < 16) : bits BinOp.or IntKind.u32 (a : Int) ((y : Int) * 268435456) = ((a + 268435456 * y : Nat) : Int) := by
  have h := u32or a y 28 268435456 (by omega) ha (by omega)
  rw [Int.natCast_mul] at h
  exact h
/-- What kbin.Uvarint hands back. -/
inductive UvOut (bs : List UInt8) (w : World) (e : Ending) (w' : World) : Prop
  | good {x : Nat} {k : Nat} (hk : 0 < k ∧ k ≤ bs.length) (hr : rdUv bs = some (x, bs.drop k)) (he : e = .returned (.tuple #[.int .u32 x, .int .i64 k])) (hw : w = w') : UvOut bs w e w'
  | bad {n : Int} (hn : n ≤ 0) (hr : rdUv bs = none) (he : e = .returned (.tuple #[.int .u32 0, .int .i64 n])) (hw : w = w') : UvOut bs w e w'
theorem uv_rest {P : Program} {fn : Func} {R : Ending → World → Prop} {a : Act} {w : World} {v : Int} {r y1 y2 y3 : Nat} {p1 p2 p3 : String} {e1 e2 e3 : Array Edge} {Q : Exit → Act → World → Prop} (hres : fn.results = #[.tmp 2, .tmp 3]) (h5 : aget a 5 = .int .i64 v) (hs : a.tmps.size = 87) (hd : a.defers = [])
    (hR : R (.returned (.tuple #[.int .u32 0, .int .i64 v])) w) (hQ : ∀ a w, bodyPost P fn R .ret a w → Q .ret a w) :
    (Code.seq .skip ((Code.region r #[⟨some 86, .move (.tmp 5), y1, p1, e1, none⟩, ⟨some 2, .assign (.const (.int .u32 0)), y2, p2, e2, none⟩, ⟨some 3, .assign (.tmp 86), y3, p3, e3, none⟩] false).seq .ret)).wp P Q a w := by
  refine wp_seq (wp_skip ?_)
  refine wp_seq (wp_reg ?_)
  refine wl_move h5 ?_
  refine wl_assign_c ?_
  refine wl_assign (v := .int .i64 v) (by rw [aget_put_other _ _ _ _ (by omega)]; exact aget_put_same _ _ _ (by rw [hs]; omega)) ?_
  refine wpList_nil (wp_ret (hQ _ _ ?_))
  refine bodyPost_ret (results_tmp2 hres _ _ _) hd ?_
  have g2 : ∀ A : Act, A.tmps.getD 2 undef = aget A 2 := fun _ => rfl
  have g3 : ∀ A : Act, A.tmps.getD 3 undef = aget A 3 := fun _ => rfl
  rw [g2, g3, aget_put_same _ _ _ (by simp only [size_put, hs]; omega), aget_put_other _ _ _ _ (by omega), aget_put_same _ _ _ (by simp only [size_put, hs]; omega)]
  exact hR
theorem noGoto_ret {Q : Exit → Act → World → Prop} {a : Act} {w : World} (h : Q .ret a w) : Exit.noGoto Q .ret a w := h
set_option maxHeartbeats 2000000 in
theorem uvS1 (bs : List UInt8) (w : World) (b o n cap : Nat) (z0 y0 : Nat) (hn : (1 : Int) ≤ n) (hlen : n = bs.length) (c0 : w.cell? ⟨b, o, none⟩ = some (.int .u8 (z0 : Nat))) (h0 : bits BinOp.and IntKind.u8 (z0 : Nat) 127 = (y0 : Nat)) (k0 : bits BinOp.and IntKind.u8 (z0 : Nat) 128 = 0) (b0 : y0 < 128) (hr : rdUv bs = some (y0, bs.drop 1)) :
    Calls Tryz.prog 79 #[.slice (some ⟨b, o, none⟩) n cap] w (UvOut bs w) := by
  have fin : Ending.returned (.tuple #[.int .u32 (((y0 : Nat) : Int) % 4294967296), .int .i64 1]) = .returned (.tuple #[.int .u32 ((y0 : Nat) : Int), .int .i64 ((1 : Nat) : Int)]) := by
    have e0 : ((y0 : Nat) : Int) % 4294967296 = ((y0 : Nat) : Int) := by omega
    rw [e0]
    rfl
  have Z := Lib.hid (And.intro hlen (And.intro hr fin))
  clear hlen hr fin b0
  go_enter Tryz.func79, Tryz.ntmps79
  go_wp2
  apply wp_scope_straight
  go_wp2_with fail
  refine noGoto_ret ?_
  go_ret2
  exact .good (k := 1) ⟨by omega, by rw [← Z.out.1]; omega⟩ Z.out.2.1 Z.out.2.2 rfl
set_option maxHeartbeats 2000000 in
theorem uvS2 (bs : List UInt8) (w : World) (b o n cap : Nat) (z0 z1 y0 y1 : Nat) (hn : (2 : Int) ≤ n) (hlen : n = bs.length) (c0 : w.cell? ⟨b, o, none⟩ = some (.int .u8 (z0 : Nat))) (c1 : w.cell? ⟨b, o + 1, none⟩ = some (.int .u8 (z1 : Nat))) (h0 : bits BinOp.and IntKind.u8 (z0 : Nat) 127 = (y0 : Nat)) (k0 : bits BinOp.and IntKind.u8 (z0 : Nat) 128 = 128) (h1 : bits BinOp.and IntKind.u8 (z1 : Nat) 127 = (y1 : Nat)) (k1 : bits BinOp.and IntKind.u8 (z1 : Nat) 128 = 0) (b0 : y0 < 128) (b1 : y1 < 128) (hr : rdUv bs = some (y0 + 128 * y1, bs.drop 2)) :
    Calls Tryz.prog 79 #[.slice (some ⟨b, o, none⟩) n cap] w (UvOut bs w) := by
  have fin : Ending.returned (.tuple #[.int .u32 (bits BinOp.or IntKind.u32 (((y0 : Nat) : Int) % 4294967296) ((y1 : Nat) % 4294967296 * 128 % 4294967296)), .int .i64 2]) = .returned (.tuple #[.int .u32 ((y0 + 128 * y1 : Nat) : Int), .int .i64 ((2 : Nat) : Int)]) := by
    have e0 : ((y0 : Nat) : Int) % 4294967296 = ((y0 : Nat) : Int) := by omega
    have e1 := u32or' (y0) y1 7 128 128 rfl (by omega) (by omega) (by omega)
    rw [e0, e1]
    rfl
  have Z := Lib.hid (And.intro hlen (And.intro hr fin))
  clear hlen hr fin b0 b1
  go_enter Tryz.func79, Tryz.ntmps79
  go_wp2
  apply wp_scope_straight
  go_wp2_with fail
  refine noGoto_ret ?_
  go_ret2
  exact .good (k := 2) ⟨by omega, by rw [← Z.out.1]; omega⟩ Z.out.2.1 Z.out.2.2 rfl
set_option maxHeartbeats 2000000 in
theorem uvS3 (bs : List UInt8) (w : World) (b o n cap : Nat) (z0 z1 z2 y0 y1 y2 : Nat) (hn : (3 : Int) ≤ n) (hlen : n = bs.length) (c0 : w.cell? ⟨b, o, none⟩ = some (.int .u8 (z0 : Nat))) (c1 : w.cell? ⟨b, o + 1, none⟩ = some (.int .u8 (z1 : Nat))) (c2 : w.cell? ⟨b, o + 2, none⟩ = some (.int .u8 (z2 : Nat))) (h0 : bits BinOp.and IntKind.u8 (z0 : Nat) 127 = (y0 : Nat)) (k0 : bits BinOp.and IntKind.u8 (z0 : Nat) 128 = 128) (h1 : bits BinOp.and IntKind.u8 (z1 : Nat) 127 = (y1 : Nat)) (k1 : bits BinOp.and IntKind.u8 (z1 : Nat) 128 = 128) (h2 : bits BinOp.and IntKind.u8 (z2 : Nat) 127 = (y2 : Nat)) (k2 : bits BinOp.and IntKind.u8 (z2 : Nat) 128 = 0) (b0 : y0 < 128) (b1 : y1 < 128) (b2 : y2 < 128) (hr : rdUv bs = some (y0 + 128 * y1 + 16384 * y2, bs.drop 3)) :
    Calls Tryz.prog 79 #[.slice (some ⟨b, o, none⟩) n cap] w (UvOut bs w) := by
  have fin : Ending.returned (.tuple #[.int .u32 (bits BinOp.or IntKind.u32 (bits BinOp.or IntKind.u32 (((y0 : Nat) : Int) % 4294967296) ((y1 : Nat) % 4294967296 * 128 % 4294967296)) ((y2 : Nat) % 4294967296 * 16384 % 4294967296)), .int .i64 3]) = .returned (.tuple #[.int .u32 ((y0 + 128 * y1 + 16384 * y2 : Nat) : Int), .int .i64 ((3 : Nat) : Int)]) := by
    have e0 : ((y0 : Nat) : Int) % 4294967296 = ((y0 : Nat) : Int) := by omega
    have e1 := u32or' (y0) y1 7 128 128 rfl (by omega) (by omega) (by omega)
    have e2 := u32or' (y0 + 128 * y1) y2 14 16384 16384 rfl (by omega) (by omega) (by omega)
    rw [e0, e1, e2]
    rfl
  have Z := Lib.hid (And.intro hlen (And.intro hr fin))
  clear hlen hr fin b0 b1 b2
  go_enter Tryz.func79, Tryz.ntmps79
  go_wp2
  apply wp_scope_straight
  go_wp2_with fail
  refine noGoto_ret ?_
  go_ret2
  exact .good (k := 3) ⟨by omega, by rw [← Z.out.1]; omega⟩ Z.out.2.1 Z.out.2.2 rfl
set_option maxHeartbeats 2000000 in
theorem uvS4 (bs : List UInt8) (w : World) (b o n cap : Nat) (z0 z1 z2 z3 y0 y1 y2 y3 : Nat) (hn : (4 : Int) ≤ n) (hlen : n = bs.length) (c0 : w.cell? ⟨b, o, none⟩ = some (.int .u8 (z0 : Nat))) (c1 : w.cell? ⟨b, o + 1, none⟩ = some (.int .u8 (z1 : Nat))) (c2 : w.cell? ⟨b, o + 2, none⟩ = some (.int .u8 (z2 : Nat))) (c3 : w.cell? ⟨b, o + 3, none⟩ = some (.int .u8 (z3 : Nat))) (h0 : bits BinOp.and IntKind.u8 (z0 : Nat) 127 = (y0 : Nat)) (k0 : bits BinOp.and IntKind.u8 (z0 : Nat) 128 = 128) (h1 : bits BinOp.and IntKind.u8 (z1 : Nat) 127 = (y1 : Nat)) (k1 : bits BinOp.and IntKind.u8 (z1 : Nat) 128 = 128) (h2 : bits BinOp.and IntKind.u8 (z2 : Nat) 127 = (y2 : Nat)) (k2 : bits BinOp.and IntKind.u8 (z2 : Nat) 128 = 128) (h3 : bits BinOp.and IntKind.u8 (z3 : Nat) 127 = (y3 : Nat)) (k3 : bits BinOp.and IntKind.u8 (z3 : Nat) 128 = 0) (b0 : y0 < 128) (b1 : y1 < 128) (b2 : y2 < 128) (b3 : y3 < 128) (hr : rdUv bs = some (y0 + 128 * y1 + 16384 * y2 + 2097152 * y3, bs.drop 4)) :
    Calls Tryz.prog 79 #[.slice (some ⟨b, o, none⟩) n cap] w (UvOut bs w) := by
  have fin : Ending.returned (.tuple #[.int .u32 (bits BinOp.or IntKind.u32 (bits BinOp.or IntKind.u32 (bits BinOp.or IntKind.u32 (((y0 : Nat) : Int) % 4294967296) ((y1 : Nat) % 4294967296 * 128 % 4294967296)) ((y2 : Nat) % 4294967296 * 16384 % 4294967296)) ((y3 : Nat) % 4294967296 * 2097152 % 4294967296)), .int .i64 4]) = .returned (.tuple #[.int .u32 ((y0 + 128 * y1 + 16384 * y2 + 2097152 * y3 : Nat) : Int), .int .i64 ((4 : Nat) : Int)]) := by
    have e0 : ((y0 : Nat) : Int) % 4294967296 = ((y0 : Nat) : Int) := by omega
    have e1 := u32or' (y0) y1 7 128 128 rfl (by omega) (by omega) (by omega)
    have e2 := u32or' (y0 + 128 * y1) y2 14 16384 16384 rfl (by omega) (by omega) (by omega)
    have e3 := u32or' (y0 + 128 * y1 + 16384 * y2) y3 21 2097152 2097152 rfl (by omega) (by omega) (by omega)
    rw [e0, e1, e2, e3]
    rfl
  have Z := Lib.hid (And.intro hlen (And.intro hr fin))
  clear hlen hr fin b0 b1 b2 b3
  go_enter Tryz.func79, Tryz.ntmps79
  go_wp2
  apply wp_scope_straight
  go_wp2_with fail
  refine noGoto_ret ?_
  go_ret2
  exact .good (k := 4) ⟨by omega, by rw [← Z.out.1]; omega⟩ Z.out.2.1 Z.out.2.2 rfl
set_option maxHeartbeats 2000000 in
theorem uvS5 (bs : List UInt8) (w : World) (b o n cap : Nat) (z0 z1 z2 z3 z4 y0 y1 y2 y3 : Nat) (hn : (5 : Int) ≤ n) (hlen : n = bs.length) (c0 : w.cell? ⟨b, o, none⟩ = some (.int .u8 (z0 : Nat))) (c1 : w.cell? ⟨b, o + 1, none⟩ = some (.int .u8 (z1 : Nat))) (c2 : w.cell? ⟨b, o + 2, none⟩ = some (.int .u8 (z2 : Nat))) (c3 : w.cell? ⟨b, o + 3, none⟩ = some (.int .u8 (z3 : Nat))) (c4 : w.cell? ⟨b, o + 4, none⟩ = some (.int .u8 (z4 : Nat))) (h0 : bits BinOp.and IntKind.u8 (z0 : Nat) 127 = (y0 : Nat)) (k0 : bits BinOp.and IntKind.u8 (z0 : Nat) 128 = 128) (h1 : bits BinOp.and IntKind.u8 (z1 : Nat) 127 = (y1 : Nat)) (k1 : bits BinOp.and IntKind.u8 (z1 : Nat) 128 = 128) (h2 : bits BinOp.and IntKind.u8 (z2 : Nat) 127 = (y2 : Nat)) (k2 : bits BinOp.and IntKind.u8 (z2 : Nat) 128 = 128) (h3 : bits BinOp.and IntKind.u8 (z3 : Nat) 127 = (y3 : Nat)) (k3 : bits BinOp.and IntKind.u8 (z3 : Nat) 128 = 128) (h4 : (z4 : Int) ≤ 15) (b0 : y0 < 128) (b1 : y1 < 128) (b2 : y2 < 128) (b3 : y3 < 128) (b4 : z4 < 16) (hr : rdUv bs = some (y0 + 128 * y1 + 16384 * y2 + 2097152 * y3 + 268435456 * z4, bs.drop 5)) :
    Calls Tryz.prog 79 #[.slice (some ⟨b, o, none⟩) n cap] w (UvOut bs w) := by
  have fin : Ending.returned (.tuple #[.int .u32 (bits BinOp.or IntKind.u32 (bits BinOp.or IntKind.u32 (bits BinOp.or IntKind.u32 (bits BinOp.or IntKind.u32 (((y0 : Nat) : Int) % 4294967296) ((y1 : Nat) % 4294967296 * 128 % 4294967296)) ((y2 : Nat) % 4294967296 * 16384 % 4294967296)) ((y3 : Nat) % 4294967296 * 2097152 % 4294967296)) (((z4 : Nat) : Int) * 268435456)), .int .i64 5]) = .returned (.tuple #[.int .u32 ((y0 + 128 * y1 + 16384 * y2 + 2097152 * y3 + 268435456 * z4 : Nat) : Int), .int .i64 ((5 : Nat) : Int)]) := by
    have e0 : ((y0 : Nat) : Int) % 4294967296 = ((y0 : Nat) : Int) := by omega
    have e1 := u32or' (y0) y1 7 128 128 rfl (by omega) (by omega) (by omega)
    have e2 := u32or' (y0 + 128 * y1) y2 14 16384 16384 rfl (by omega) (by omega) (by omega)
    have e3 := u32or' (y0 + 128 * y1 + 16384 * y2) y3 21 2097152 2097152 rfl (by omega) (by omega) (by omega)
    have e4 := u32or4 (y0 + 128 * y1 + 16384 * y2 + 2097152 * y3) z4 (by omega) b4
    rw [e0, e1, e2, e3, e4]
    rfl
  have Z := Lib.hid (And.intro hlen (And.intro hr fin))
  clear hlen hr fin b0 b1 b2 b3 b4
  go_enter Tryz.func79, Tryz.ntmps79
  go_wp2
  apply wp_scope_straight
  go_wp2_with fail
  refine noGoto_ret ?_
  go_ret2
  exact .good (k := 5) ⟨by omega, by rw [← Z.out.1]; omega⟩ Z.out.2.1 Z.out.2.2 rfl
set_option maxHeartbeats 2000000 in
theorem uvL0 (bs : List UInt8) (w : World) (ad : Option Addr) (n cap : Nat)  (hn : (0 : Int) ≤ n) (hn2 : (n : Int) < 1)   (hr : rdUv bs = none) :
    Calls Tryz.prog 79 #[.slice ad n cap] w (UvOut bs w) := by
  have Z := Lib.hid hr
  clear hr
  go_enter Tryz.func79, Tryz.ntmps79
  go_wp2
  refine wp_scope_jumps 0 (fun a' w' => w = w' ∧ aget a' 5 = .int .i64 0 ∧ a'.tmps.size = 87 ∧ a'.defers = []) (fun _ _ => 0) rfl ?_ ?_
  · go_wp2_with fail
    refine wp_goto ?_
    exact ⟨rfl, rfl, rfl, rfl, rfl⟩
  · rintro a' w' ⟨rfl, h5, hs, hd⟩
    exact uv_rest (fn := Tryz.f79) (R := UvOut bs w) rfl h5 hs hd (.bad (by omega) Z.out rfl rfl) (fun _ _ h => h)
set_option maxHeartbeats 2000000 in
theorem uvL1 (bs : List UInt8) (w : World) (b o n cap : Nat) (z0 y0 : Nat) (hn : (1 : Int) ≤ n) (hn2 : (n : Int) < 2) (c0 : w.cell? ⟨b, o, none⟩ = some (.int .u8 (z0 : Nat))) (h0 : bits BinOp.and IntKind.u8 (z0 : Nat) 127 = (y0 : Nat)) (k0 : bits BinOp.and IntKind.u8 (z0 : Nat) 128 = 128) (hr : rdUv bs = none) :
    Calls Tryz.prog 79 #[.slice (some ⟨b, o, none⟩) n cap] w (UvOut bs w) := by
  have Z := Lib.hid hr
  clear hr
  go_enter Tryz.func79, Tryz.ntmps79
  go_wp2
  refine wp_scope_jumps 0 (fun a' w' => w = w' ∧ aget a' 5 = .int .i64 0 ∧ a'.tmps.size = 87 ∧ a'.defers = []) (fun _ _ => 0) rfl ?_ ?_
  · go_wp2_with fail
    refine wp_goto ?_
    exact ⟨rfl, rfl, rfl, rfl, rfl⟩
  · rintro a' w' ⟨rfl, h5, hs, hd⟩
    exact uv_rest (fn := Tryz.f79) (R := UvOut bs w) rfl h5 hs hd (.bad (by omega) Z.out rfl rfl) (fun _ _ h => h)
set_option maxHeartbeats 2000000 in
theorem uvL2 (bs : List UInt8) (w : World) (b o n cap : Nat) (z0 z1 y0 y1 : Nat) (hn : (2 : Int) ≤ n) (hn2 : (n : Int) < 3) (c0 : w.cell? ⟨b, o, none⟩ = some (.int .u8 (z0 : Nat))) (c1 : w.cell? ⟨b, o + 1, none⟩ = some (.int .u8 (z1 : Nat))) (h0 : bits BinOp.and IntKind.u8 (z0 : Nat) 127 = (y0 : Nat)) (k0 : bits BinOp.and IntKind.u8 (z0 : Nat) 128 = 128) (h1 : bits BinOp.and IntKind.u8 (z1 : Nat) 127 = (y1 : Nat)) (k1 : bits BinOp.and IntKind.u8 (z1 : Nat) 128 = 128) (hr : rdUv bs = none) :
    Calls Tryz.prog 79 #[.slice (some ⟨b, o, none⟩) n cap] w (UvOut bs w) := by
  have Z := Lib.hid hr
  clear hr
  go_enter Tryz.func79, Tryz.ntmps79
  go_wp2
  refine wp_scope_jumps 0 (fun a' w' => w = w' ∧ aget a' 5 = .int .i64 0 ∧ a'.tmps.size = 87 ∧ a'.defers = []) (fun _ _ => 0) rfl ?_ ?_
  · go_wp2_with fail
    refine wp_goto ?_
    exact ⟨rfl, rfl, rfl, rfl, rfl⟩
  · rintro a' w' ⟨rfl, h5, hs, hd⟩
    exact uv_rest (fn := Tryz.f79) (R := UvOut bs w) rfl h5 hs hd (.bad (by omega) Z.out rfl rfl) (fun _ _ h => h)
set_option maxHeartbeats 2000000 in
theorem uvL3 (bs : List UInt8) (w : World) (b o n cap : Nat) (z0 z1 z2 y0 y1 y2 : Nat) (hn : (3 : Int) ≤ n) (hn2 : (n : Int) < 4) (c0 : w.cell? ⟨b, o, none⟩ = some (.int .u8 (z0 : Nat))) (c1 : w.cell? ⟨b, o + 1, none⟩ = some (.int .u8 (z1 : Nat))) (c2 : w.cell? ⟨b, o + 2, none⟩ = some (.int .u8 (z2 : Nat))) (h0 : bits BinOp.and IntKind.u8 (z0 : Nat) 127 = (y0 : Nat)) (k0 : bits BinOp.and IntKind.u8 (z0 : Nat) 128 = 128) (h1 : bits BinOp.and IntKind.u8 (z1 : Nat) 127 = (y1 : Nat)) (k1 : bits BinOp.and IntKind.u8 (z1 : Nat) 128 = 128) (h2 : bits BinOp.and IntKind.u8 (z2 : Nat) 127 = (y2 : Nat)) (k2 : bits BinOp.and IntKind.u8 (z2 : Nat) 128 = 128) (hr : rdUv bs = none) :
    Calls Tryz.prog 79 #[.slice (some ⟨b, o, none⟩) n cap] w (UvOut bs w) := by
  have Z := Lib.hid hr
  clear hr
  go_enter Tryz.func79, Tryz.ntmps79
  go_wp2
  refine wp_scope_jumps 0 (fun a' w' => w = w' ∧ aget a' 5 = .int .i64 0 ∧ a'.tmps.size = 87 ∧ a'.defers = []) (fun _ _ => 0) rfl ?_ ?_
  · go_wp2_with fail
    refine wp_goto ?_
    exact ⟨rfl, rfl, rfl, rfl, rfl⟩
  · rintro a' w' ⟨rfl, h5, hs, hd⟩
    exact uv_rest (fn := Tryz.f79) (R := UvOut bs w) rfl h5 hs hd (.bad (by omega) Z.out rfl rfl) (fun _ _ h => h)
set_option maxHeartbeats 2000000 in
theorem uvL4 (bs : List UInt8) (w : World) (b o n cap : Nat) (z0 z1 z2 z3 y0 y1 y2 y3 : Nat) (hn : (4 : Int) ≤ n) (hn2 : (n : Int) < 5) (c0 : w.cell? ⟨b, o, none⟩ = some (.int .u8 (z0 : Nat))) (c1 : w.cell? ⟨b, o + 1, none⟩ = some (.int .u8 (z1 : Nat))) (c2 : w.cell? ⟨b, o + 2, none⟩ = some (.int .u8 (z2 : Nat))) (c3 : w.cell? ⟨b, o + 3, none⟩ = some (.int .u8 (z3 : Nat))) (h0 : bits BinOp.and IntKind.u8 (z0 : Nat) 127 = (y0 : Nat)) (k0 : bits BinOp.and IntKind.u8 (z0 : Nat) 128 = 128) (h1 : bits BinOp.and IntKind.u8 (z1 : Nat) 127 = (y1 : Nat)) (k1 : bits BinOp.and IntKind.u8 (z1 : Nat) 128 = 128) (h2 : bits BinOp.and IntKind.u8 (z2 : Nat) 127 = (y2 : Nat)) (k2 : bits BinOp.and IntKind.u8 (z2 : Nat) 128 = 128) (h3 : bits BinOp.and IntKind.u8 (z3 : Nat) 127 = (y3 : Nat)) (k3 : bits BinOp.and IntKind.u8 (z3 : Nat) 128 = 128) (hr : rdUv bs = none) :
    Calls Tryz.prog 79 #[.slice (some ⟨b, o, none⟩) n cap] w (UvOut bs w) := by
  have Z := Lib.hid hr
  clear hr
  go_enter Tryz.func79, Tryz.ntmps79
  go_wp2
  refine wp_scope_jumps 0 (fun a' w' => w = w' ∧ aget a' 5 = .int .i64 0 ∧ a'.tmps.size = 87 ∧ a'.defers = []) (fun _ _ => 0) rfl ?_ ?_
  · go_wp2_with fail
    refine wp_goto ?_
    exact ⟨rfl, rfl, rfl, rfl, rfl⟩
  · rintro a' w' ⟨rfl, h5, hs, hd⟩
    exact uv_rest (fn := Tryz.f79) (R := UvOut bs w) rfl h5 hs hd (.bad (by omega) Z.out rfl rfl) (fun _ _ h => h)
set_option maxHeartbeats 2000000 in
theorem uvOver (bs : List UInt8) (w : World) (b o n cap : Nat) (z0 z1 z2 z3 z4 y0 y1 y2 y3 : Nat) (hn : (5 : Int) ≤ n) (c0 : w.cell? ⟨b, o, none⟩ = some (.int .u8 (z0 : Nat))) (c1 : w.cell? ⟨b, o + 1, none⟩ = some (.int .u8 (z1 : Nat))) (c2 : w.cell? ⟨b, o + 2, none⟩ = some (.int .u8 (z2 : Nat))) (c3 : w.cell? ⟨b, o + 3, none⟩ = some (.int .u8 (z3 : Nat))) (c4 : w.cell? ⟨b, o + 4, none⟩ = some (.int .u8 (z4 : Nat))) (h0 : bits BinOp.and IntKind.u8 (z0 : Nat) 127 = (y0 : Nat)) (k0 : bits BinOp.and IntKind.u8 (z0 : Nat) 128 = 128) (h1 : bits BinOp.and IntKind.u8 (z1 : Nat) 127 = (y1 : Nat)) (k1 : bits BinOp.and IntKind.u8 (z1 : Nat) 128 = 128) (h2 : bits BinOp.and IntKind.u8 (z2 : Nat) 127 = (y2 : Nat)) (k2 : bits BinOp.and IntKind.u8 (z2 : Nat) 128 = 128) (h3 : bits BinOp.and IntKind.u8 (z3 : Nat) 127 = (y3 : Nat)) (k3 : bits BinOp.and IntKind.u8 (z3 : Nat) 128 = 128) (h4 : ¬ (z4 : Int) ≤ 15) (hr : rdUv bs = none) :
    Calls Tryz.prog 79 #[.slice (some ⟨b, o, none⟩) n cap] w (UvOut bs w) := by
  have Z := Lib.hid hr
  clear hr
  go_enter Tryz.func79, Tryz.ntmps79
  go_wp2
  apply wp_scope_straight
  go_wp2_with fail
  refine wp_label ?_
  go_wp2_with fail
  refine noGoto_ret ?_
  go_ret2
  exact .bad (n := -5) (by omega) Z.out rfl rfl
end Go.Proofs.YtkhpglongkhbjaaGreatDoorR

/- What is written is read again; what is read can be written. Plain functions over bytes: no program in sight. -/
namespace Go.Proofs.YtkhpglongkhbjaaGreatDoorR

/-- Just the octets s are read, as v. -/
def Exact {α : Type} (s : List UInt8) (p : Pr α) (v : α) : Prop := ∀ x, p (s ++ x) = some (v, x)
theorem Exact.bind {α β : Type} {p : Pr α} {f : α → Pr β} {s s' : List UInt8} {v : α} {u : β} (h : Exact s p v) (k : Exact s' (f v) u) : Exact (s ++ s') (p.bind f) u := by
  intro x
  rw [List.append_assoc, bind_eq (h _)]
  exact k x
theorem Exact.pure {α : Type} (v : α) : Exact [] (Pr.pure v) v := fun _ => rfl
theorem Exact.bind_pure {α β : Type} {p : Pr α} {f : α → β} {s : List UInt8} {v : α} (h : Exact s p v) : Exact s (p.bind fun v => Pr.pure (f v)) (f v) := by
  have := Exact.bind (f := fun v => Pr.pure (f v)) h (Exact.pure (f v))
  rwa [List.append_nil] at this
theorem Exact.of_eq {α : Type} {s s' : List UInt8} {p : Pr α} {v : α} (h : Exact s p v) (e : s = s') : Exact s' p v := e ▸ h
theorem Exact.take (s : List UInt8) : Exact s (rdTake s.length) s := by
  intro x
  unfold rdTake
  simp
theorem Exact.take' {s : List UInt8} {n : Nat} (h : n = s.length) : Exact s (rdTake n) s := by subst h; exact Exact.take s

theorem bb_toNat (n : Int) : ((bb n).toNat : Int) = n % 256 := by
  unfold bb
  simp
  omega
theorem beNat1 (n : Int) : (beNat [bb n] : Int) = n % 256 := by
  have := bb_toNat n
  simp [beNat]
  omega
theorem beNat16 (n : Int) : (beNat (be16 n) : Int) = n % 65536 := by
  have h0 := bb_toNat n
  have h1 := bb_toNat (n / 256)
  simp only [beNat, be16, List.foldl_cons, List.foldl_nil]
  omega
theorem beNat32 (n : Int) : (beNat (be32 n) : Int) = n % 4294967296 := by
  have h0 := bb_toNat n
  have h1 := bb_toNat (n / 256)
  have h2 := bb_toNat (n / 65536)
  have h3 := bb_toNat (n / 16777216)
  simp only [beNat, be32, List.foldl_cons, List.foldl_nil]
  omega
theorem beNat64 (n : Int) : (beNat (be64 n) : Int) = n % 18446744073709551616 := by
  have h0 := bb_toNat n
  have h1 := bb_toNat (n / 256)
  have h2 := bb_toNat (n / 65536)
  have h3 := bb_toNat (n / 16777216)
  have h4 := bb_toNat (n / 4294967296)
  have h5 := bb_toNat (n / 1099511627776)
  have h6 := bb_toNat (n / 281474976710656)
  have h7 := bb_toNat (n / 72057594037927936)
  simp only [beNat, be64, List.foldl_cons, List.foldl_nil]
  omega
theorem beNat_lt : ∀ (l : List UInt8), beNat l < 256 ^ l.length := by
  intro l
  have h : ∀ (l : List UInt8) (a : Nat), l.foldl (fun a b => a * 256 + b.toNat) a < (a + 1) * 256 ^ l.length := by
    intro l
    induction l with
    | nil => intro a; simp
    | cons b l ih =>
      intro a
      have := ih (a * 256 + b.toNat)
      have hb : b.toNat < 256 := b.toNat_lt
      simp only [List.foldl_cons, List.length_cons, Nat.pow_succ]
      refine Nat.lt_of_lt_of_le this ?_
      rw [Nat.mul_comm (256 ^ l.length) 256, ← Nat.mul_assoc]
      exact Nat.mul_le_mul_right _ (by omega)
  have := h l 0
  simpa [beNat] using this
theorem Exact.int1 {n : Int} (h0 : -128 ≤ n) (h1 : n ≤ 127) : Exact [bb n] (rdInt 1 128) n := by
  have h := Exact.bind_pure (f := fun m : Nat => sg 128 m) (Exact.bind_pure (f := beNat) (Exact.take' (s := [bb n]) (n := 1) rfl))
  have e : sg 128 (beNat [bb n]) = n := by rw [beNat1]; unfold sg; omega
  rw [e] at h
  exact h
theorem Exact.int2 {n : Int} (h0 : -32768 ≤ n) (h1 : n ≤ 32767) : Exact (be16 n) (rdInt 2 32768) n := by
  have h := Exact.bind_pure (f := fun m : Nat => sg 32768 m) (Exact.bind_pure (f := beNat) (Exact.take' (s := be16 n) (n := 2) rfl))
  have e : sg 32768 (beNat (be16 n)) = n := by rw [beNat16]; unfold sg; omega
  rw [e] at h
  exact h
theorem Exact.int4 {n : Int} (h0 : -2147483648 ≤ n) (h1 : n ≤ 2147483647) : Exact (be32 n) (rdInt 4 2147483648) n := by
  have h := Exact.bind_pure (f := fun m : Nat => sg 2147483648 m) (Exact.bind_pure (f := beNat) (Exact.take' (s := be32 n) (n := 4) rfl))
  have e : sg 2147483648 (beNat (be32 n)) = n := by rw [beNat32]; unfold sg; omega
  rw [e] at h
  exact h
theorem Exact.int8 {n : Int} (h0 : -9223372036854775808 ≤ n) (h1 : n ≤ 9223372036854775807) : Exact (be64 n) (rdInt 8 9223372036854775808) n := by
  have h := Exact.bind_pure (f := fun m : Nat => sg 9223372036854775808 m) (Exact.bind_pure (f := beNat) (Exact.take' (s := be64 n) (n := 8) rfl))
  have e : sg 9223372036854775808 (beNat (be64 n)) = n := by rw [beNat64]; unfold sg; omega
  rw [e] at h
  exact h
theorem Exact.nat2 {n : Nat} (h1 : n ≤ 65535) : Exact (be16 n) (rdNat 2) n := by
  have h := Exact.bind_pure (f := beNat) (Exact.take' (s := be16 n) (n := 2) rfl)
  have e : beNat (be16 n) = n := by have := beNat16 n; omega
  rw [e] at h
  exact h
theorem Exact.uvF : ∀ (k n : Nat), n < 16 * 128 ^ k → Exact (Proofs.YtkhpglongkhbjaaGreatDoorR.uvF k n) (rdUvF k) n
  | 0, n, h => by
    intro x
    have e : (UInt8.ofNat n).toNat = n := by simp; omega
    have e2 : ((UInt8.ofNat n).toNat ≤ 15) := by omega
    simp only [Proofs.YtkhpglongkhbjaaGreatDoorR.uvF, rdUvF, List.cons_append, List.nil_append]
    rw [if_pos e2, e]
  | k + 1, n, h => by
    intro x
    unfold Proofs.YtkhpglongkhbjaaGreatDoorR.uvF
    split
    · rename_i hn
      have e : (UInt8.ofNat n).toNat = n := by simp; omega
      simp only [rdUvF, List.cons_append, List.nil_append]
      rw [e, if_pos hn]
    · rename_i hn
      have e : (UInt8.ofNat (n % 128 + 128)).toNat = n % 128 + 128 := by simp; omega
      simp only [rdUvF, List.cons_append]
      rw [e, if_neg (by omega), Exact.uvF k (n / 128) (by rw [Nat.pow_succ] at h; omega) x]
      simp only [Option.some.injEq, Prod.mk.injEq, and_true]
      omega
/-- More groups than are needed turn nothing. -/
theorem uvF_more : ∀ (k d n : Nat), n < 16 * 128 ^ k → Proofs.YtkhpglongkhbjaaGreatDoorR.uvF (k + d) n = Proofs.YtkhpglongkhbjaaGreatDoorR.uvF k n
  | 0, 0, n, _ => rfl
  | 0, d + 1, n, h => by
    have hn : n < 128 := by simp at h; omega
    rw [Nat.zero_add]
    simp only [Proofs.YtkhpglongkhbjaaGreatDoorR.uvF, if_pos hn]
  | k + 1, d, n, h => by
    rw [show k + 1 + d = (k + d) + 1 by omega]
    simp only [Proofs.YtkhpglongkhbjaaGreatDoorR.uvF]
    rw [uvF_more k d (n / 128) (by rw [Nat.pow_succ] at h; omega)]
theorem Exact.uv {n : Nat} (h : n ≤ 4294967295) : Exact (Proofs.YtkhpglongkhbjaaGreatDoorR.uv n) rdUv n := by
  have h4 : n < 16 * 128 ^ 4 := by omega
  have e : Proofs.YtkhpglongkhbjaaGreatDoorR.uv n = Proofs.YtkhpglongkhbjaaGreatDoorR.uvF 4 n := uvF_more 4 5 n h4
  rw [e]
  exact Exact.uvF 4 n h4

/-- What can be said of a kind, and told. -/
def wfLeaf (ver : Int) (flex : Bool) : Leaf → GV → Prop
  | .i8, .int n => -128 ≤ n ∧ n ≤ 127
  | .i16, .int n => -32768 ≤ n ∧ n ≤ 32767
  | .u16, .int n => 0 ≤ n ∧ n ≤ 65535
  | .i32, .int n => -2147483648 ≤ n ∧ n ≤ 2147483647
  | .i64, .int n => -9223372036854775808 ≤ n ∧ n ≤ 9223372036854775807
  | .bool, .bool _ => True
  | .uuid, .bytes b => b.length = 16
  | .str, .bytes b => b.length ≤ strMax flex
  | .nstr, .bytes b => b.length ≤ strMax flex
  | .nstr, .null => True
  | .nstrFrom _, .bytes b => b.length ≤ strMax flex
  | .nstrFrom m, .null => ¬ ver < m
  | .bytes, .bytes b => b.length ≤ bMax flex
  | _, _ => False
theorem Exact.lenS {flex : Bool} {b : List UInt8} (hb : b.length ≤ strMax flex) : Exact (Proofs.YtkhpglongkhbjaaGreatDoorR.lenS flex b.length ++ b) (rdStr flex) (.bytes b) := by
  cases flex
  · simp [strMax] at hb
    unfold rdStr Proofs.YtkhpglongkhbjaaGreatDoorR.lenS
    simp only [Bool.false_eq_true, if_false]
    refine Exact.bind (v := (b.length : Int)) (Exact.int2 (by omega) (by omega)) ?_
    rw [if_neg (by omega)]
    refine Exact.bind_pure (f := GV.bytes) (Exact.take' (by omega))
  · simp [strMax] at hb
    unfold rdStr Proofs.YtkhpglongkhbjaaGreatDoorR.lenS
    simp only [if_true]
    refine Exact.bind (v := b.length + 1) (Exact.uv (by omega)) ?_
    rw [if_neg (by omega)]
    refine Exact.bind_pure (f := GV.bytes) (Exact.take' (by omega))
theorem Exact.lenS' {flex : Bool} {b : List UInt8} (hb : b.length ≤ strMax flex) : Exact (Proofs.YtkhpglongkhbjaaGreatDoorR.lenS flex b.length ++ b) (rdNStr flex) (.bytes b) := by
  cases flex
  · simp [strMax] at hb
    unfold rdNStr Proofs.YtkhpglongkhbjaaGreatDoorR.lenS
    simp only [Bool.false_eq_true, if_false]
    refine Exact.bind (v := (b.length : Int)) (Exact.int2 (by omega) (by omega)) ?_
    rw [if_neg (by omega)]
    refine Exact.bind_pure (f := GV.bytes) (Exact.take' (by omega))
  · simp [strMax] at hb
    unfold rdNStr Proofs.YtkhpglongkhbjaaGreatDoorR.lenS
    simp only [if_true]
    refine Exact.bind (v := b.length + 1) (Exact.uv (by omega)) ?_
    rw [if_neg (by omega)]
    refine Exact.bind_pure (f := GV.bytes) (Exact.take' (by omega))
theorem Exact.nulS (flex : Bool) : Exact (Proofs.YtkhpglongkhbjaaGreatDoorR.nulS flex) (rdNStr flex) .null := by
  cases flex
  · unfold rdNStr Proofs.YtkhpglongkhbjaaGreatDoorR.nulS
    simp only [Bool.false_eq_true, if_false]
    have := Exact.bind (f := fun n : Int => if n < 0 then Pr.pure GV.null else (rdTake n.toNat).bind fun s => .pure (.bytes s)) (Exact.int2 (n := -1) (by omega) (by omega)) (Exact.pure GV.null)
    rwa [List.append_nil] at this
  · unfold rdNStr Proofs.YtkhpglongkhbjaaGreatDoorR.nulS
    simp only [if_true]
    have := Exact.bind (f := fun n : Nat => if n = 0 then Pr.pure GV.null else (rdTake (n - 1)).bind fun s => .pure (.bytes s)) (Exact.uv (n := 0) (by omega)) (Exact.pure GV.null)
    rwa [List.append_nil] at this
theorem Exact.lenB {flex : Bool} {b : List UInt8} (hb : b.length ≤ bMax flex) : Exact (Proofs.YtkhpglongkhbjaaGreatDoorR.lenB flex b.length ++ b) (rdBytes flex) (.bytes b) := by
  cases flex
  · have hb : b.length ≤ 2147483647 := hb
    unfold rdBytes Proofs.YtkhpglongkhbjaaGreatDoorR.lenB
    simp only [Bool.false_eq_true, if_false]
    refine Exact.bind (v := (b.length : Int)) (Exact.int4 (by omega) (by omega)) ?_
    rw [if_neg (by omega), if_neg (by omega)]
    refine Exact.bind_pure (f := GV.bytes) (Exact.take' (by omega))
  · have hb : b.length ≤ 4294967294 := hb
    unfold rdBytes Proofs.YtkhpglongkhbjaaGreatDoorR.lenB
    simp only [if_true]
    refine Exact.bind (v := b.length + 1) (Exact.uv (by omega)) ?_
    rw [if_neg (by omega)]
    refine Exact.bind_pure (f := GV.bytes) (Exact.take' (by omega))
theorem exact_leaf {ver : Int} {flex : Bool} {k : Leaf} {v : GV} (h : wfLeaf ver flex k v) : Exact (apLeaf ver flex k v) (rdLeaf ver flex k) v := by
  cases k <;> cases v <;> simp only [wfLeaf] at h <;> try exact h.elim
  · exact Exact.bind_pure (f := GV.int) (Exact.int1 h.1 h.2)
  · exact Exact.bind_pure (f := GV.int) (Exact.int2 h.1 h.2)
  · exact Exact.bind_pure (f := GV.int) (Exact.int4 h.1 h.2)
  · exact Exact.bind_pure (f := GV.int) (Exact.int8 h.1 h.2)
  · rename_i n
    obtain ⟨m, rfl⟩ := Int.eq_ofNat_of_zero_le h.1
    exact Exact.bind_pure (f := fun n : Nat => GV.int n) (Exact.nat2 (by omega))
  · rename_i b
    intro x
    cases b <;> rfl
  · exact Exact.bind_pure (f := GV.bytes) (Exact.take' h.symm)
  · exact Exact.lenS h
  · exact Exact.lenS' h
  · exact Exact.nulS flex
  · exact Exact.lenB h
  · rename_i m b
    by_cases hm : ver < m
    · have e : rdLeaf ver flex (.nstrFrom m) = rdStr flex := if_pos hm
      rw [e]
      exact Exact.lenS h
    · have e : rdLeaf ver flex (.nstrFrom m) = rdNStr flex := if_neg hm
      rw [e]
      exact Exact.lenS' h
  · rename_i m
    have e : rdLeaf ver flex (.nstrFrom m) = rdNStr flex := if_neg h
    have e2 : apLeaf ver flex (.nstrFrom m) .null = Proofs.YtkhpglongkhbjaaGreatDoorR.nulS flex := if_neg h
    rw [e, e2]
    exact Exact.nulS flex
theorem lenS_pos (flex : Bool) (n : Nat) : 1 ≤ (Proofs.YtkhpglongkhbjaaGreatDoorR.lenS flex n).length := by
  unfold Proofs.YtkhpglongkhbjaaGreatDoorR.lenS
  split
  · exact uv_pos _
  · simp [be16]
theorem nulS_pos (flex : Bool) : 1 ≤ (Proofs.YtkhpglongkhbjaaGreatDoorR.nulS flex).length := by
  unfold Proofs.YtkhpglongkhbjaaGreatDoorR.nulS
  split
  · exact uv_pos _
  · simp [be16]
theorem lenB_pos (flex : Bool) (n : Nat) : 1 ≤ (Proofs.YtkhpglongkhbjaaGreatDoorR.lenB flex n).length := by
  unfold Proofs.YtkhpglongkhbjaaGreatDoorR.lenB
  split
  · exact uv_pos _
  · simp [be32]
theorem nulB_pos (flex : Bool) : 1 ≤ (Proofs.YtkhpglongkhbjaaGreatDoorR.nulB flex).length := by
  unfold Proofs.YtkhpglongkhbjaaGreatDoorR.nulB
  split
  · exact uv_pos _
  · simp [be32]
theorem leaf_pos {ver : Int} {flex : Bool} {k : Leaf} {v : GV} (h : wfLeaf ver flex k v) : 1 ≤ (apLeaf ver flex k v).length := by
  have h1 := lenS_pos flex
  have h2 := nulS_pos flex
  have h3 := lenB_pos flex
  cases k <;> cases v <;> simp only [wfLeaf] at h <;> try exact h.elim
  all_goals simp only [apLeaf]
  all_goals first
    | (simp [be16, be32, be64]; done)
    | omega
    | (rename_i b; have := h1 b.length; simp only [List.length_append]; omega)
    | (rename_i b; have := h3 b.length; simp only [List.length_append]; omega)
    | (rw [if_neg h]; omega)

/-- Rising numbers, each once. -/
def rising : List (Nat × List UInt8) → Prop
  | [] => True
  | [_] => True
  | a :: b :: r => a.1 < b.1 ∧ rising (b :: r)
/-- What can be said of a part, and told. -/
def WF (ver : Int) (flex : Bool) : Sch → GV → Prop
  | .leaf k, v => wfLeaf ver flex k v
  | .list _ _ e, .list l => l.length ≤ 2147483647 ∧ ∀ v ∈ l, WF ver flex e v
  | .list nul _ _, .null => nullAt nul ver = true
  | .opt _, .null => True
  | .opt e, v => WF ver flex e v
  | .done, .unit => True
  | .tags _, .tags l => rising l ∧ l.length ≤ 4294967295 ∧ (∀ t ∈ l, t.1 ≤ 4294967295 ∧ t.2.length ≤ 4294967295) ∧ (flex = false → l = [])
  | .cons _ lo hi f rest, .cons v vs => (hasV lo hi ver = true → WF ver flex f v) ∧ WF ver flex rest vs
  | _, _ => False
/-- Each thing of a part has an octet at least. -/
def posS (ver : Int) (flex : Bool) : Sch → Bool
  | .leaf _ => true
  | .list _ _ _ => true
  | .opt _ => true
  | .done => false
  | .tags _ => flex
  | .cons _ lo hi f rest => (hasV lo hi ver && posS ver flex f) || posS ver flex rest
/-- The things of all lists have an octet at least; a part that may be null is a part. -/
def okS (ver : Int) (flex : Bool) : Sch → Bool
  | .leaf _ => true
  | .list _ _ e => posS ver flex e && okS ver flex e
  | .opt e => (match e with | .cons .. => true | .tags _ => true | _ => false) && okS ver flex e
  | .done => true
  | .tags _ => true
  | .cons _ lo hi f rest => (!hasV lo hi ver || okS ver flex f) && okS ver flex rest
theorem ap_pos {ver : Int} {flex : Bool} : ∀ (s : Sch) (v : GV), posS ver flex s = true → WF ver flex s v → 1 ≤ (ap ver flex s v).length
  | .leaf k, v, _, h => leaf_pos h
  | .list nul z e, v, _, h => by
    have h3 := lenB_pos flex
    have h4 := nulB_pos flex
    cases v <;> simp only [WF] at h <;> try exact h.elim
    · simp only [ap]; omega
    · rename_i l
      have := h3 l.length
      simp only [ap, List.length_append]
      omega
  | .opt e, v, _, h => by
    cases v <;> simp [ap]
  | .done, _, h, _ => by cases h
  | .tags _, v, h, k => by
    cases v <;> simp only [WF] at k <;> try exact k.elim
    rename_i l
    have := uv_pos l.length
    simp only [posS] at h
    subst h
    simp only [ap, if_true, List.length_append]
    omega
  | .cons _ lo hi f rest, v, h, k => by
    cases v <;> simp only [WF] at k <;> try exact k.elim
    rename_i v vs
    simp only [posS, Bool.or_eq_true, Bool.and_eq_true] at h
    simp only [ap, List.length_append]
    rcases h with ⟨h1, h2⟩ | h
    · have := ap_pos f v h2 (k.1 h1)
      rw [if_pos h1]
      omega
    · have := ap_pos rest vs h k.2
      omega
theorem Exact.count {flex : Bool} {n : Nat} (h : n ≤ 2147483647) : Exact (Proofs.YtkhpglongkhbjaaGreatDoorR.lenB flex n) (rdCount flex) (n : Int) := by
  unfold rdCount Proofs.YtkhpglongkhbjaaGreatDoorR.lenB
  cases flex
  · simp only [Bool.false_eq_true, if_false]
    exact Exact.int4 (by omega) (by omega)
  · simp only [if_true]
    have h := Exact.bind_pure (f := fun n : Nat => sg 2147483648 (sg 2147483648 n - 1)) (Exact.uv (n := n + 1) (by omega))
    have e : sg 2147483648 (sg 2147483648 ((n + 1 : Nat) : Int) - 1) = n := by unfold sg; omega
    rwa [e] at h
theorem Exact.countNul {flex : Bool} : Exact (Proofs.YtkhpglongkhbjaaGreatDoorR.nulB flex) (rdCount flex) (-1) := by
  unfold rdCount Proofs.YtkhpglongkhbjaaGreatDoorR.nulB
  cases flex
  · simp only [Bool.false_eq_true, if_false]
    exact Exact.int4 (by omega) (by omega)
  · simp only [if_true]
    have h := Exact.bind_pure (f := fun n : Nat => sg 2147483648 (sg 2147483648 n - 1)) (Exact.uv (n := 0) (by omega))
    have e : sg 2147483648 (sg 2147483648 ((0 : Nat) : Int) - 1) = -1 := by unfold sg; omega
    rwa [e] at h
theorem exact_list {α : Type} {flex : Bool} {n : Nat} (hn : n ≤ 2147483647) {s : List UInt8} (hs : n ≤ s.length) {f : Int → Pr α} {u : α} (k : Exact s (f n) u) : Exact (Proofs.YtkhpglongkhbjaaGreatDoorR.lenB flex n ++ s) ((rdLen flex).bind f) u := by
  intro x
  have h : rdLen flex (Proofs.YtkhpglongkhbjaaGreatDoorR.lenB flex n ++ (s ++ x)) = some ((n : Int), s ++ x) := by
    unfold rdLen
    rw [bind_eq (Exact.count hn _)]
    rw [if_neg (by simp; omega)]
  rw [List.append_assoc, bind_eq h]
  exact k x
theorem exact_listNul {α : Type} {flex : Bool} {f : Int → Pr α} {u : α} (k : Exact [] (f (-1)) u) : Exact (Proofs.YtkhpglongkhbjaaGreatDoorR.nulB flex) ((rdLen flex).bind f) u := by
  intro x
  have h : rdLen flex (Proofs.YtkhpglongkhbjaaGreatDoorR.nulB flex ++ x) = some (-1, x) := by
    unfold rdLen
    rw [bind_eq (Exact.countNul _)]
    rw [if_neg (by omega)]
  rw [bind_eq h]
  exact k x
theorem exact_tag {t : Nat × List UInt8} (h : t.1 ≤ 4294967295 ∧ t.2.length ≤ 4294967295) : Exact (Proofs.YtkhpglongkhbjaaGreatDoorR.uv t.1 ++ Proofs.YtkhpglongkhbjaaGreatDoorR.uv t.2.length ++ t.2) rdTag1 t := by
  rw [List.append_assoc]
  refine Exact.bind (Exact.uv h.1) ?_
  refine Exact.bind (Exact.uv (by omega)) ?_
  exact Exact.bind_pure (f := fun v => (t.1, v)) (Exact.take t.2)
theorem exact_many_tags : ∀ (l : List (Nat × List UInt8)), (∀ t ∈ l, t.1 ≤ 4294967295 ∧ t.2.length ≤ 4294967295) → Exact (apTags l) (rdMany rdTag1 l.length) l
  | [], _ => Exact.pure []
  | t :: l, h => by
    have h1 := exact_tag (h t (List.mem_cons_self ..))
    have h2 := exact_many_tags l (fun t ht => h t (List.mem_cons_of_mem _ ht))
    have := Exact.bind (f := fun v => (rdMany rdTag1 l.length).bind fun l => Pr.pure (v :: l)) h1 (Exact.bind_pure (f := fun l => t :: l) h2)
    exact this.of_eq (by simp [apTags])
theorem tagIns_last : ∀ (l : List (Nat × List UInt8)) (t : Nat × List UInt8), (∀ u ∈ l, u.1 < t.1) → tagIns t.1 t.2 l = l ++ [t]
  | [], t, _ => rfl
  | a :: l, t, h => by
    have ha := h a (List.mem_cons_self ..)
    obtain ⟨j, u⟩ := a
    simp only [tagIns]
    rw [if_neg (by simp at ha; omega), if_neg (by simp at ha; omega), tagIns_last l t (fun u hu => h u (List.mem_cons_of_mem _ hu))]
    rfl
theorem rising_tail {a : Nat × List UInt8} {l : List (Nat × List UInt8)} (h : rising (a :: l)) : rising l ∧ ∀ u ∈ l, a.1 < u.1 := by
  induction l generalizing a with
  | nil => exact ⟨trivial, fun u hu => by cases hu⟩
  | cons b r ih =>
    obtain ⟨h1, h2⟩ := h
    refine ⟨h2, fun u hu => ?_⟩
    rcases List.mem_cons.1 hu with rfl | hu
    · exact h1
    · have := (ih h2).2 u hu
      omega
theorem foldl_ins : ∀ (l acc : List (Nat × List UInt8)), rising l → (∀ a ∈ acc, ∀ u ∈ l, a.1 < u.1) → l.foldl (fun acc t => tagIns t.1 t.2 acc) acc = acc ++ l
  | [], acc, _, _ => by simp
  | t :: l, acc, h, k => by
    simp only [List.foldl_cons]
    rw [tagIns_last acc t (fun u hu => k u hu t (List.mem_cons_self ..)), foldl_ins l _ (rising_tail h).1 ?_]
    · simp
    · intro a ha u hu
      rcases List.mem_append.1 ha with ha | ha
      · exact k a ha u (List.mem_cons_of_mem _ hu)
      · rw [List.mem_singleton.1 ha]
        exact (rising_tail h).2 u hu
theorem tagSort_rising {l : List (Nat × List UInt8)} (h : rising l) : tagSort l = l := by
  unfold tagSort
  rw [foldl_ins l [] h (fun a ha => by cases ha)]
  rfl
theorem exact_tags {flex : Bool} {l : List (Nat × List UInt8)} (h : rising l) (hl : l.length ≤ 4294967295) (hb : ∀ t ∈ l, t.1 ≤ 4294967295 ∧ t.2.length ≤ 4294967295) (hf : flex = false → l = []) :
    Exact (if flex then Proofs.YtkhpglongkhbjaaGreatDoorR.uv l.length ++ apTags l else []) (rdTags flex) (.tags l) := by
  cases flex
  · rw [hf rfl]
    exact Exact.pure _
  · simp only [if_true, rdTags]
    have := Exact.bind_pure (f := fun l => GV.tags (tagSort l)) (Exact.bind (f := fun n => rdMany rdTag1 n) (Exact.uv (n := l.length) (by omega)) (exact_many_tags l hb))
    rw [tagSort_rising h] at this
    exact this
theorem exact_many {ver : Int} {flex : Bool} {e : Sch} (l : List GV) (h : ∀ v ∈ l, ∃ v', WF ver flex e v' ∧ ap ver flex e v' = ap ver flex e v ∧ Exact (ap ver flex e v) (rd ver flex e) v') :
    ∃ l', l'.length = l.length ∧ (∀ v ∈ l', WF ver flex e v) ∧ l'.flatMap (ap ver flex e) = l.flatMap (ap ver flex e) ∧ Exact (l.flatMap (ap ver flex e)) (rdMany (rd ver flex e) l.length) l' := by
  induction l with
  | nil => exact ⟨[], rfl, (fun v hv => nomatch hv), rfl, Exact.pure []⟩
  | cons v l ih =>
    obtain ⟨v', w1, e1, x1⟩ := h v (List.mem_cons_self ..)
    obtain ⟨l', n2, w2, e2, x2⟩ := ih fun v hv => h v (List.mem_cons_of_mem _ hv)
    refine ⟨v' :: l', by simp [n2], ?_, by simp [e1, e2], ?_⟩
    · intro u hu
      rcases List.mem_cons.1 hu with rfl | hu
      · exact w1
      · exact w2 u hu
    · have := Exact.bind (f := fun v => (rdMany (rd ver flex e) l.length).bind fun l => Pr.pure (v :: l)) x1 (Exact.bind_pure (f := fun l => v' :: l) x2)
      exact this
theorem sum_pos {ver : Int} {flex : Bool} {e : Sch} (hp : posS ver flex e = true) : ∀ (l : List GV), (∀ v ∈ l, WF ver flex e v) → l.length ≤ (l.flatMap (ap ver flex e)).length
  | [], _ => by simp
  | v :: l, h => by
    have h1 := ap_pos e v hp (h v (List.mem_cons_self ..))
    have h2 := sum_pos hp l (fun v hv => h v (List.mem_cons_of_mem _ hv))
    simp only [List.flatMap_cons, List.length_append, List.length_cons]
    omega
/-- What is written is read again, and written as the same. -/
theorem rd_ap (ver : Int) (flex : Bool) : ∀ (s : Sch) (v : GV), okS ver flex s = true → WF ver flex s v → ∃ v', WF ver flex s v' ∧ ap ver flex s v' = ap ver flex s v ∧ Exact (ap ver flex s v) (rd ver flex s) v'
  | .leaf k, v, _, h => ⟨v, h, rfl, exact_leaf h⟩
  | .list nul z e, v, hk, h => by
    simp only [okS, Bool.and_eq_true] at hk
    cases v <;> simp only [WF] at h <;> try exact h.elim
    · refine ⟨.null, h, rfl, ?_⟩
      unfold rd
      simp only [ap]
      refine exact_listNul ?_
      rw [if_pos ⟨by omega, h⟩]
      exact Exact.pure _
    · rename_i l
      obtain ⟨l', n2, w2, e2, x2⟩ := exact_many l (fun v hv => rd_ap ver flex e v hk.2 (h.2 v hv))
      refine ⟨.list l', ⟨by omega, w2⟩, by simp only [ap]; rw [n2, e2], ?_⟩
      unfold rd
      simp only [ap]
      refine exact_list h.1 (sum_pos hk.1 l h.2) ?_
      rw [if_neg (by omega)]
      exact Exact.bind_pure (f := GV.list) (by rwa [Int.toNat_natCast])
  | .opt e, v, hk, h => by
    simp only [okS, Bool.and_eq_true] at hk
    by_cases hv : v = .null
    · subst hv
      refine ⟨.null, trivial, rfl, ?_⟩
      unfold rd
      have := Exact.bind (f := fun n : Int => if n = -1 then Pr.pure GV.null else rd ver flex e) (Exact.int1 (n := -1) (by omega) (by omega)) (Exact.pure GV.null)
      exact this
    · have hw : WF ver flex e v := by cases v <;> first | exact absurd rfl hv | exact h
      obtain ⟨v', w1, e1, x1⟩ := rd_ap ver flex e v hk.2 hw
      have hv' : v' ≠ .null := by
        rintro rfl
        cases e <;> simp [WF] at w1 hk
      refine ⟨v', ?_, ?_, ?_⟩
      · cases v' <;> first | exact absurd rfl hv' | exact w1
      · have a1 : ap ver flex (.opt e) v' = 1 :: ap ver flex e v' := by cases v' <;> first | exact absurd rfl hv' | rfl
        have a2 : ap ver flex (.opt e) v = 1 :: ap ver flex e v := by cases v <;> first | exact absurd rfl hv | rfl
        rw [a1, a2, e1]
      · have a2 : ap ver flex (.opt e) v = 1 :: ap ver flex e v := by cases v <;> first | exact absurd rfl hv | rfl
        rw [a2]
        unfold rd
        have := Exact.bind (f := fun n : Int => if n = -1 then Pr.pure GV.null else rd ver flex e) (Exact.int1 (n := 1) (by omega) (by omega)) x1
        exact this
  | .done, v, _, h => by
    cases v <;> simp only [WF] at h <;> try exact h.elim
    exact ⟨.unit, trivial, rfl, Exact.pure _⟩
  | .tags off, v, _, h => by
    cases v <;> simp only [WF] at h <;> try exact h.elim
    rename_i l
    exact ⟨.tags l, h, rfl, exact_tags h.1 h.2.1 h.2.2.1 h.2.2.2⟩
  | .cons off lo hi f rest, v, hk, h => by
    simp only [okS, Bool.and_eq_true, Bool.or_eq_true, Bool.not_eq_true'] at hk
    cases v <;> simp only [WF] at h <;> try exact h.elim
    rename_i v vs
    obtain ⟨vs', w2, e2, x2⟩ := rd_ap ver flex rest vs hk.2 h.2
    by_cases hv : hasV lo hi ver = true
    · obtain ⟨v', w1, e1, x1⟩ := rd_ap ver flex f v (hk.1.resolve_left (by rw [hv]; exact fun h => by cases h)) (h.1 hv)
      refine ⟨.cons v' vs', ⟨fun _ => w1, w2⟩, by simp only [ap, e1, e2], ?_⟩
      unfold rd
      simp only [ap, hv, if_true]
      exact Exact.bind x1 (Exact.bind_pure (f := fun vs => GV.cons v' vs) x2)
    · refine ⟨.cons .unit vs', ⟨fun h => absurd h hv, w2⟩, by simp only [ap, e2, if_neg hv], ?_⟩
      unfold rd
      simp only [ap, if_neg hv, List.nil_append]
      exact Exact.bind_pure (f := fun vs => GV.cons .unit vs) x2
/-- What ends ahead of its end is not read. -/
theorem cut_none {α : Type} {p : Pr α} (hm : Mono p) {s : List UInt8} {v : α} (h : Exact s p v) {n : Nat} (hn : n < s.length) : p (s.take n) = none := by
  cases hp : p (s.take n) with
  | none => rfl
  | some q =>
    obtain ⟨u, r⟩ := q
    have h1 := hm _ _ _ (s.drop n) hp
    rw [List.take_append_drop] at h1
    have h2 := h []
    rw [List.append_nil, h1] at h2
    simp only [Option.some.injEq, Prod.mk.injEq, List.append_eq_nil_iff, List.drop_eq_nil_iff] at h2
    omega
end Go.Proofs.YtkhpglongkhbjaaGreatDoorR

/- What is read can be written, in as many octets at the most. Plain functions over bytes: no program in sight. -/
namespace Go.Proofs.YtkhpglongkhbjaaGreatDoorR

theorem out_take {n : Nat} {bs l r : List UInt8} (h : rdTake n bs = some (l, r)) : l.length = n ∧ n + r.length = bs.length := by
  unfold rdTake at h
  split at h
  · simp only [Option.some.injEq, Prod.mk.injEq] at h
    obtain ⟨rfl, rfl⟩ := h
    simp
    omega
  · cases h
theorem pure_some {α : Type} {v u : α} {bs r : List UInt8} (h : Pr.pure v bs = some (u, r)) : v = u ∧ bs = r := by
  simpa [Pr.pure] using h
theorem out_nat {k n : Nat} {bs r : List UInt8} (h : rdNat k bs = some (n, r)) : n < 256 ^ k ∧ k + r.length = bs.length := by
  obtain ⟨l, r', h1, h2⟩ := bind_some h
  obtain ⟨rfl, rfl⟩ := pure_some h2
  obtain ⟨e1, e2⟩ := out_take h1
  have := beNat_lt l
  rw [e1] at this
  exact ⟨this, e2⟩
theorem out_int {k : Nat} {m n : Int} {bs r : List UInt8} (hm : 0 < m) (h : rdInt k m bs = some (n, r)) : -m ≤ n ∧ n < m ∧ k + r.length = bs.length := by
  obtain ⟨l, r', h1, h2⟩ := bind_some h
  obtain ⟨rfl, rfl⟩ := pure_some h2
  obtain ⟨e1, e2⟩ := out_nat h1
  have h3 := Int.emod_nonneg ((l : Int) + m) (b := 2 * m) (by omega)
  have h4 := Int.emod_lt_of_pos ((l : Int) + m) (b := 2 * m) (by omega)
  refine ⟨?_, ?_, e2⟩ <;> (unfold sg; omega)
theorem out_uvF : ∀ {k n : Nat} {bs r : List UInt8}, rdUvF k bs = some (n, r) → n < 16 * 128 ^ k ∧ (Proofs.YtkhpglongkhbjaaGreatDoorR.uvF k n).length + r.length ≤ bs.length
  | 0, n, bs, r, h => by
    cases bs with
    | nil => cases h
    | cons b l =>
      simp only [rdUvF] at h
      split at h
      · rename_i hb
        simp only [Option.some.injEq, Prod.mk.injEq] at h
        obtain ⟨rfl, rfl⟩ := h
        simp [Proofs.YtkhpglongkhbjaaGreatDoorR.uvF]
        omega
      · cases h
  | k + 1, n, bs, r, h => by
    cases bs with
    | nil => cases h
    | cons b l =>
      simp only [rdUvF] at h
      split at h
      · rename_i hb
        simp only [Option.some.injEq, Prod.mk.injEq] at h
        obtain ⟨rfl, rfl⟩ := h
        have hp : 0 < 128 ^ (k + 1) := Nat.pow_pos (by omega)
        simp only [Proofs.YtkhpglongkhbjaaGreatDoorR.uvF, if_pos hb, List.length_cons, List.length_nil]
        rw [Nat.pow_succ] at *
        omega
      · cases hr : rdUvF k l with
        | none => rw [hr] at h; cases h
        | some q =>
          obtain ⟨m, r'⟩ := q
          rw [hr] at h
          simp only [Option.some.injEq, Prod.mk.injEq] at h
          obtain ⟨rfl, rfl⟩ := h
          obtain ⟨h1, h2⟩ := out_uvF hr
          have e : (b.toNat % 128 + 128 * m) / 128 = m := by omega
          refine ⟨by rw [Nat.pow_succ]; omega, ?_⟩
          simp only [Proofs.YtkhpglongkhbjaaGreatDoorR.uvF, e]
          split
          · simp only [List.length_cons, List.length_nil]
            have := (uvF_length k m).2
            omega
          · simp only [List.length_cons]
            omega
theorem out_uv {n : Nat} {bs r : List UInt8} (h : rdUv bs = some (n, r)) : n ≤ 4294967295 ∧ (Proofs.YtkhpglongkhbjaaGreatDoorR.uv n).length + r.length ≤ bs.length := by
  obtain ⟨h1, h2⟩ := out_uvF h
  refine ⟨by omega, ?_⟩
  have e : Proofs.YtkhpglongkhbjaaGreatDoorR.uv n = Proofs.YtkhpglongkhbjaaGreatDoorR.uvF 4 n := uvF_more 4 5 n h1
  rw [e]
  exact h2
theorem uvF_mono : ∀ (k n m : Nat), n ≤ m → (Proofs.YtkhpglongkhbjaaGreatDoorR.uvF k n).length ≤ (Proofs.YtkhpglongkhbjaaGreatDoorR.uvF k m).length
  | 0, _, _, _ => by simp [Proofs.YtkhpglongkhbjaaGreatDoorR.uvF]
  | k + 1, n, m, h => by
    simp only [Proofs.YtkhpglongkhbjaaGreatDoorR.uvF]
    split
    · split
      · simp
      · have := (uvF_length k (m / 128)).2
        simp only [List.length_cons, List.length_nil]
        omega
    · rw [if_neg (by omega)]
      have := uvF_mono k (n / 128) (m / 128) (by omega)
      simp only [List.length_cons]
      omega
theorem uv_mono {n m : Nat} (h : n ≤ m) : (Proofs.YtkhpglongkhbjaaGreatDoorR.uv n).length ≤ (Proofs.YtkhpglongkhbjaaGreatDoorR.uv m).length := uvF_mono 9 n m h
theorem uv0_length : (Proofs.YtkhpglongkhbjaaGreatDoorR.uv 0).length = 1 := by decide
theorem uv1_length : (Proofs.YtkhpglongkhbjaaGreatDoorR.uv 1).length = 1 := by decide

def M : Nat := 140737488355328
theorem out_str {flex : Bool} {bs r : List UInt8} {v : GV} (hb : bs.length ≤ M) (h : rdStr flex bs = some (v, r)) : ∃ s, v = .bytes s ∧ s.length ≤ strMax flex ∧ (lenS flex s.length ++ s).length + r.length ≤ bs.length := by
  unfold M at hb
  cases flex
  · simp only [rdStr, Bool.false_eq_true, if_false] at h
    obtain ⟨n, r1, h1, h2⟩ := bind_some h
    obtain ⟨e1, e2, e3⟩ := out_int (by omega) h1
    split at h2
    · cases h2
    · obtain ⟨s, r2, h3, h4⟩ := bind_some h2
      obtain ⟨rfl, rfl⟩ := pure_some h4
      obtain ⟨g1, g2⟩ := out_take h3
      refine ⟨s, rfl, by simp [strMax]; omega, ?_⟩
      simp [lenS, be16_length]
      omega
  · simp only [rdStr, if_true] at h
    obtain ⟨n, r1, h1, h2⟩ := bind_some h
    obtain ⟨e1, e2⟩ := out_uv h1
    split at h2
    · cases h2
    · obtain ⟨s, r2, h3, h4⟩ := bind_some h2
      obtain ⟨rfl, rfl⟩ := pure_some h4
      obtain ⟨g1, g2⟩ := out_take h3
      refine ⟨s, rfl, by simp [strMax]; omega, ?_⟩
      simp only [lenS, if_true, List.length_append]
      rw [g1, show n - 1 + 1 = n by omega]
      omega
theorem out_nstr {flex : Bool} {bs r : List UInt8} {v : GV} (hb : bs.length ≤ M) (h : rdNStr flex bs = some (v, r)) :
    (v = .null ∧ (nulS flex).length + r.length ≤ bs.length) ∨ ∃ s, v = .bytes s ∧ s.length ≤ strMax flex ∧ (lenS flex s.length ++ s).length + r.length ≤ bs.length := by
  unfold M at hb
  cases flex
  · simp only [rdNStr, Bool.false_eq_true, if_false] at h
    obtain ⟨n, r1, h1, h2⟩ := bind_some h
    obtain ⟨e1, e2, e3⟩ := out_int (by omega) h1
    split at h2
    · obtain ⟨rfl, rfl⟩ := pure_some h2
      exact .inl ⟨rfl, by simp [nulS, be16_length]; omega⟩
    · obtain ⟨s, r2, h3, h4⟩ := bind_some h2
      obtain ⟨rfl, rfl⟩ := pure_some h4
      obtain ⟨g1, g2⟩ := out_take h3
      refine .inr ⟨s, rfl, by simp [strMax]; omega, ?_⟩
      simp [lenS, be16_length]
      omega
  · simp only [rdNStr, if_true] at h
    obtain ⟨n, r1, h1, h2⟩ := bind_some h
    obtain ⟨e1, e2⟩ := out_uv h1
    split at h2
    · obtain ⟨rfl, rfl⟩ := pure_some h2
      subst n
      exact .inl ⟨rfl, by simpa [nulS] using e2⟩
    · obtain ⟨s, r2, h3, h4⟩ := bind_some h2
      obtain ⟨rfl, rfl⟩ := pure_some h4
      obtain ⟨g1, g2⟩ := out_take h3
      refine .inr ⟨s, rfl, by simp [strMax]; omega, ?_⟩
      simp only [lenS, if_true, List.length_append]
      rw [g1, show n - 1 + 1 = n by omega]
      omega
theorem out_bytes {flex : Bool} {bs r : List UInt8} {v : GV} (hb : bs.length ≤ M) (h : rdBytes flex bs = some (v, r)) : ∃ s, v = .bytes s ∧ s.length ≤ bMax flex ∧ (lenB flex s.length ++ s).length + r.length ≤ bs.length := by
  unfold M at hb
  cases flex
  · simp only [rdBytes, Bool.false_eq_true, if_false] at h
    obtain ⟨n, r1, h1, h2⟩ := bind_some h
    obtain ⟨e1, e2, e3⟩ := out_int (by omega) h1
    split at h2
    · obtain ⟨rfl, rfl⟩ := pure_some h2
      exact ⟨[], rfl, by simp, by simp [lenB, be32_length]; omega⟩
    · split at h2
      · cases h2
      · obtain ⟨s, r2, h3, h4⟩ := bind_some h2
        obtain ⟨rfl, rfl⟩ := pure_some h4
        obtain ⟨g1, g2⟩ := out_take h3
        refine ⟨s, rfl, by rw [g1]; show n.toNat ≤ 2147483647; omega, ?_⟩
        simp [lenB, be32_length]
        omega
  · simp only [rdBytes, if_true] at h
    obtain ⟨n, r1, h1, h2⟩ := bind_some h
    obtain ⟨e1, e2⟩ := out_uv h1
    split at h2
    · obtain ⟨rfl, rfl⟩ := pure_some h2
      subst n
      rw [uv0_length] at e2
      exact ⟨[], rfl, by simp, by simp [lenB, uv1_length]; omega⟩
    · obtain ⟨s, r2, h3, h4⟩ := bind_some h2
      obtain ⟨rfl, rfl⟩ := pure_some h4
      obtain ⟨g1, g2⟩ := out_take h3
      refine ⟨s, rfl, by rw [g1]; show n - 1 ≤ 4294967294; omega, ?_⟩
      simp only [lenB, if_true, List.length_append]
      rw [g1, show n - 1 + 1 = n by omega]
      omega
theorem out_leaf {ver : Int} {flex : Bool} {k : Leaf} {bs r : List UInt8} {v : GV} (hb : bs.length ≤ M) (h : rdLeaf ver flex k bs = some (v, r)) : wfLeaf ver flex k v ∧ (apLeaf ver flex k v).length + r.length ≤ bs.length := by
  cases k <;> simp only [rdLeaf] at h
  case i8 =>
    obtain ⟨n, r1, h1, h2⟩ := bind_some h
    obtain ⟨rfl, rfl⟩ := pure_some h2
    obtain ⟨e1, e2, e3⟩ := out_int (by omega) h1
    exact ⟨⟨by omega, by omega⟩, by simp [apLeaf]; omega⟩
  case i16 =>
    obtain ⟨n, r1, h1, h2⟩ := bind_some h
    obtain ⟨rfl, rfl⟩ := pure_some h2
    obtain ⟨e1, e2, e3⟩ := out_int (by omega) h1
    exact ⟨⟨by omega, by omega⟩, by simp [apLeaf, be16_length]; omega⟩
  case i32 =>
    obtain ⟨n, r1, h1, h2⟩ := bind_some h
    obtain ⟨rfl, rfl⟩ := pure_some h2
    obtain ⟨e1, e2, e3⟩ := out_int (by omega) h1
    exact ⟨⟨by omega, by omega⟩, by simp [apLeaf, be32_length]; omega⟩
  case i64 =>
    obtain ⟨n, r1, h1, h2⟩ := bind_some h
    obtain ⟨rfl, rfl⟩ := pure_some h2
    obtain ⟨e1, e2, e3⟩ := out_int (by omega) h1
    exact ⟨⟨by omega, by omega⟩, by simp [apLeaf, be64_length]; omega⟩
  case u16 =>
    obtain ⟨n, r1, h1, h2⟩ := bind_some h
    obtain ⟨rfl, rfl⟩ := pure_some h2
    obtain ⟨e1, e3⟩ := out_nat h1
    exact ⟨⟨by omega, by omega⟩, by simp [apLeaf, be16_length]; omega⟩
  case bool =>
    obtain ⟨n, r1, h1, h2⟩ := bind_some h
    obtain ⟨rfl, rfl⟩ := pure_some h2
    obtain ⟨e1, e3⟩ := out_nat h1
    exact ⟨trivial, by simp [apLeaf]; omega⟩
  case uuid =>
    obtain ⟨n, r1, h1, h2⟩ := bind_some h
    obtain ⟨rfl, rfl⟩ := pure_some h2
    obtain ⟨e1, e3⟩ := out_take h1
    exact ⟨e1, by simp [apLeaf]; omega⟩
  case str =>
    obtain ⟨s, rfl, h1, h2⟩ := out_str hb h
    exact ⟨h1, h2⟩
  case nstr =>
    rcases out_nstr hb h with ⟨rfl, h1⟩ | ⟨s, rfl, h1, h2⟩
    · exact ⟨trivial, h1⟩
    · exact ⟨h1, h2⟩
  case bytes =>
    obtain ⟨s, rfl, h1, h2⟩ := out_bytes hb h
    exact ⟨h1, h2⟩
  case nstrFrom m =>
    by_cases hm : ver < m
    · rw [if_pos hm] at h
      obtain ⟨s, rfl, h1, h2⟩ := out_str hb h
      exact ⟨h1, h2⟩
    · rw [if_neg hm] at h
      rcases out_nstr hb h with ⟨rfl, h1⟩ | ⟨s, rfl, h1, h2⟩
      · exact ⟨hm, by simpa [apLeaf, hm] using h1⟩
      · exact ⟨h1, h2⟩
theorem out_count {flex : Bool} {bs r : List UInt8} {n : Int} (h : rdCount flex bs = some (n, r)) : (nulB flex).length + r.length ≤ bs.length ∧ (lenB flex n.toNat).length + r.length ≤ bs.length ∧ n ≤ 2147483647 := by
  cases flex
  · simp only [rdCount, Bool.false_eq_true, if_false] at h
    obtain ⟨e1, e2, e3⟩ := out_int (by omega) h
    simp [nulB, lenB, be32_length]
    omega
  · simp only [rdCount, if_true] at h
    obtain ⟨m, r1, h1, h2⟩ := bind_some h
    obtain ⟨rfl, rfl⟩ := pure_some h2
    obtain ⟨e1, e2⟩ := out_uv h1
    have e3 := uv_pos m
    simp only [nulB, lenB, if_true, uv0_length]
    refine ⟨by omega, ?_, by unfold sg; omega⟩
    have e4 : (sg 2147483648 (sg 2147483648 m - 1)).toNat + 1 ≤ m ∨ (sg 2147483648 (sg 2147483648 m - 1)).toNat = 0 := by unfold sg; omega
    rcases e4 with e4 | e4
    · have := uv_mono e4
      omega
    · rw [e4, Nat.zero_add, uv1_length]
      omega
theorem out_len {flex : Bool} {bs r : List UInt8} {n : Int} (h : rdLen flex bs = some (n, r)) : n ≤ r.length ∧ (nulB flex).length + r.length ≤ bs.length ∧ (lenB flex n.toNat).length + r.length ≤ bs.length ∧ n ≤ 2147483647 := by
  obtain ⟨m, r1, h1, h2⟩ := bind_some h
  split at h2
  · cases h2
  · rename_i hm
    simp only [Option.some.injEq, Prod.mk.injEq] at h2
    obtain ⟨rfl, rfl⟩ := h2
    obtain ⟨e1, e2, e3⟩ := out_count h1
    exact ⟨by omega, e1, e2, e3⟩
theorem out_tag1 {bs r : List UInt8} {t : Nat × List UInt8} (hb : bs.length ≤ M) (h : rdTag1 bs = some (t, r)) : t.1 ≤ 4294967295 ∧ t.2.length ≤ 4294967295 ∧ (apTags [t]).length + r.length ≤ bs.length := by
  unfold M at hb
  obtain ⟨k, r1, h1, h2⟩ := bind_some h
  obtain ⟨n, r2, h3, h4⟩ := bind_some h2
  obtain ⟨v, r3, h5, h6⟩ := bind_some h4
  obtain ⟨rfl, rfl⟩ := pure_some h6
  obtain ⟨a1, a2⟩ := out_uv h1
  obtain ⟨b1, b2⟩ := out_uv h3
  obtain ⟨c1, c2⟩ := out_take h5
  refine ⟨a1, by simp only; omega, ?_⟩
  simp only [apTags, List.flatMap_cons, List.flatMap_nil, List.append_nil, List.length_append]
  rw [c1]
  omega
theorem apTags_cons (t : Nat × List UInt8) (l : List (Nat × List UInt8)) : (apTags (t :: l)).length = (apTags [t]).length + (apTags l).length := by
  simp [apTags]
  omega
theorem out_many_tags : ∀ {n : Nat} {bs r : List UInt8} {l : List (Nat × List UInt8)}, bs.length ≤ M → rdMany rdTag1 n bs = some (l, r) →
    l.length = n ∧ (∀ t ∈ l, t.1 ≤ 4294967295 ∧ t.2.length ≤ 4294967295) ∧ (apTags l).length + r.length ≤ bs.length ∧ n + r.length ≤ bs.length
  | 0, bs, r, l, _, h => by
    obtain ⟨rfl, rfl⟩ := pure_some h
    exact ⟨rfl, (fun t ht => nomatch ht), by simp [apTags], by omega⟩
  | n + 1, bs, r, l, hb, h => by
    obtain ⟨t, r1, h1, h2⟩ := bind_some h
    obtain ⟨l', r2, h3, h4⟩ := bind_some h2
    obtain ⟨rfl, rfl⟩ := pure_some h4
    obtain ⟨a1, a2, a3⟩ := out_tag1 hb h1
    obtain ⟨b1, b2, b3, b4⟩ := out_many_tags (by omega) h3
    have hp : 1 ≤ (apTags [t]).length := by
      have := uv_pos t.1
      simp only [apTags, List.flatMap_cons, List.flatMap_nil, List.append_nil, List.length_append]
      omega
    refine ⟨by simp [b1], ?_, by rw [apTags_cons]; omega, by omega⟩
    intro u hu
    rcases List.mem_cons.1 hu with rfl | hu
    · exact ⟨a1, a2⟩
    · exact b2 u hu
theorem rising_cons {t : Nat × List UInt8} {l : List (Nat × List UInt8)} (h : rising l) (k : ∀ u ∈ l, t.1 < u.1) : rising (t :: l) := by
  cases l with
  | nil => trivial
  | cons a l => exact ⟨k a (List.mem_cons_self ..), h⟩
theorem tagIns_mem : ∀ (l : List (Nat × List UInt8)) (k : Nat) (v : List UInt8) (u : Nat × List UInt8), u ∈ tagIns k v l → u = (k, v) ∨ u ∈ l
  | [], k, v, u, h => by simpa [tagIns] using h
  | (j, x) :: l, k, v, u, h => by
    simp only [tagIns] at h
    split at h
    · simpa using h
    · split at h
      · rcases List.mem_cons.1 h with h | h
        · exact .inl h
        · exact .inr (List.mem_cons_of_mem _ h)
      · rcases List.mem_cons.1 h with h | h
        · exact .inr (by rw [h]; exact List.mem_cons_self ..)
        · rcases tagIns_mem l k v u h with h | h
          · exact .inl h
          · exact .inr (List.mem_cons_of_mem _ h)
theorem tagIns_rising : ∀ (l : List (Nat × List UInt8)) (k : Nat) (v : List UInt8), rising l → rising (tagIns k v l) ∧ (tagIns k v l).length ≤ l.length + 1 ∧ (apTags (tagIns k v l)).length ≤ (apTags [(k, v)]).length + (apTags l).length
  | [], k, v, _ => ⟨trivial, by simp [tagIns], by simp [tagIns, apTags]⟩
  | (j, x) :: l, k, v, h => by
    obtain ⟨h1, h2⟩ := rising_tail h
    simp only [tagIns]
    split
    · rename_i hk
      refine ⟨⟨hk, h⟩, by simp, by rw [apTags_cons (k, v)]; omega⟩
    · split
      · rename_i hk hj
        subst hj
        refine ⟨rising_cons h1 h2, by simp, ?_⟩
        rw [apTags_cons, apTags_cons (k, x)]
        omega
      · rename_i hk hj
        obtain ⟨i1, i2, i3⟩ := tagIns_rising l k v h1
        refine ⟨rising_cons i1 ?_, by simp only [List.length_cons]; omega, by rw [apTags_cons (j, x), apTags_cons (j, x) l]; omega⟩
        intro u hu
        rcases tagIns_mem l k v u hu with rfl | hu
        · simp only; omega
        · exact h2 u hu
theorem foldl_out : ∀ (l acc : List (Nat × List UInt8)), rising acc → (∀ t ∈ acc, t.1 ≤ 4294967295 ∧ t.2.length ≤ 4294967295) → (∀ t ∈ l, t.1 ≤ 4294967295 ∧ t.2.length ≤ 4294967295) →
    rising (l.foldl (fun acc t => tagIns t.1 t.2 acc) acc) ∧ (l.foldl (fun acc t => tagIns t.1 t.2 acc) acc).length ≤ acc.length + l.length ∧
    (apTags (l.foldl (fun acc t => tagIns t.1 t.2 acc) acc)).length ≤ (apTags acc).length + (apTags l).length ∧ (∀ t ∈ l.foldl (fun acc t => tagIns t.1 t.2 acc) acc, t.1 ≤ 4294967295 ∧ t.2.length ≤ 4294967295)
  | [], acc, h, h2, _ => ⟨h, by simp, by simp [apTags], h2⟩
  | t :: l, acc, h, h2, h3 => by
    obtain ⟨i1, i2, i3⟩ := tagIns_rising acc t.1 t.2 h
    obtain ⟨j1, j2, j3, j4⟩ := foldl_out l (tagIns t.1 t.2 acc) i1 (fun u hu => by
      rcases tagIns_mem acc t.1 t.2 u hu with rfl | hu
      · exact h3 _ (List.mem_cons_self ..)
      · exact h2 u hu) (fun u hu => h3 u (List.mem_cons_of_mem _ hu))
    simp only [List.foldl_cons]
    refine ⟨j1, by simp only [List.length_cons]; omega, ?_, j4⟩
    rw [apTags_cons t l]
    have e : (apTags [(t.1, t.2)]).length = (apTags [t]).length := rfl
    omega
theorem out_tagsRaw {bs r : List UInt8} {l : List (Nat × List UInt8)} (hb : bs.length ≤ M) (h : rdTagsRaw bs = some (l, r)) :
    rising (tagSort l) ∧ (tagSort l).length ≤ l.length ∧ l.length ≤ 4294967295 ∧ (∀ t ∈ l, t.1 ≤ 4294967295 ∧ t.2.length ≤ 4294967295) ∧ (∀ t ∈ tagSort l, t.1 ≤ 4294967295 ∧ t.2.length ≤ 4294967295) ∧ (Proofs.YtkhpglongkhbjaaGreatDoorR.uv (tagSort l).length ++ apTags (tagSort l)).length + r.length ≤ bs.length := by
  obtain ⟨n, r1, h1, h2⟩ := bind_some h
  obtain ⟨a1, a2⟩ := out_uv h1
  obtain ⟨b1, b2, b3, b4⟩ := out_many_tags (by omega) h2
  obtain ⟨c1, c2, c3, c4⟩ := foldl_out l [] trivial (fun t ht => nomatch ht) b2
  have e0 : (apTags []).length = 0 := rfl
  have c2' : (tagSort l).length ≤ l.length := by
    have : (tagSort l).length ≤ ([] : List (Nat × List UInt8)).length + l.length := c2
    simpa using this
  have c3' : (apTags (tagSort l)).length ≤ (apTags []).length + (apTags l).length := c3
  refine ⟨c1, c2', by omega, b2, c4, ?_⟩
  have := uv_mono c2'
  simp only [List.length_append]
  rw [b1] at this
  omega
theorem out_many {ver : Int} {flex : Bool} {e : Sch} (ih : ∀ {bs r : List UInt8} {v : GV}, bs.length ≤ M → rd ver flex e bs = some (v, r) → WF ver flex e v ∧ (ap ver flex e v).length + r.length ≤ bs.length) :
    ∀ {n : Nat} {bs r : List UInt8} {l : List GV}, bs.length ≤ M → rdMany (rd ver flex e) n bs = some (l, r) → l.length = n ∧ (∀ v ∈ l, WF ver flex e v) ∧ (l.flatMap (ap ver flex e)).length + r.length ≤ bs.length
  | 0, bs, r, l, _, h => by
    obtain ⟨rfl, rfl⟩ := pure_some h
    exact ⟨rfl, (fun t ht => nomatch ht), by simp⟩
  | n + 1, bs, r, l, hb, h => by
    obtain ⟨t, r1, h1, h2⟩ := bind_some h
    obtain ⟨l', r2, h3, h4⟩ := bind_some h2
    obtain ⟨rfl, rfl⟩ := pure_some h4
    obtain ⟨a1, a2⟩ := ih hb h1
    obtain ⟨b1, b2, b3⟩ := out_many ih (by omega) h3
    refine ⟨by simp [b1], ?_, by simp only [List.flatMap_cons, List.length_append]; omega⟩
    intro u hu
    rcases List.mem_cons.1 hu with rfl | hu
    · exact a1
    · exact b2 u hu
/-- What is read can be written, in as many octets at the most. -/
theorem rd_out (ver : Int) (flex : Bool) : ∀ (s : Sch), okS ver flex s = true → ∀ {bs r : List UInt8} {v : GV}, bs.length ≤ M → rd ver flex s bs = some (v, r) → WF ver flex s v ∧ (ap ver flex s v).length + r.length ≤ bs.length
  | .leaf k, _, bs, r, v, hb, h => out_leaf hb h
  | .list nul z e, hk, bs, r, v, hb, h => by
    simp only [okS, Bool.and_eq_true] at hk
    unfold rd at h
    obtain ⟨n, r1, h1, h2⟩ := bind_some h
    obtain ⟨a1, a2, a3, a4⟩ := out_len h1
    split at h2
    · rename_i hn
      obtain ⟨rfl, rfl⟩ := pure_some h2
      exact ⟨hn.2, a2⟩
    · obtain ⟨l, r2, h3, h4⟩ := bind_some h2
      obtain ⟨rfl, rfl⟩ := pure_some h4
      obtain ⟨b1, b2, b3⟩ := out_many (rd_out ver flex e hk.2) (by omega) h3
      unfold M at hb
      refine ⟨⟨by omega, b2⟩, ?_⟩
      simp only [ap, List.length_append]
      rw [b1]
      omega
  | .opt e, hk, bs, r, v, hb, h => by
    simp only [okS, Bool.and_eq_true] at hk
    unfold rd at h
    obtain ⟨n, r1, h1, h2⟩ := bind_some h
    obtain ⟨a1, a2, a3⟩ := out_int (by omega) h1
    split at h2
    · obtain ⟨rfl, rfl⟩ := pure_some h2
      exact ⟨trivial, by simp [ap]; omega⟩
    · obtain ⟨b1, b2⟩ := rd_out ver flex e hk.2 (by omega) h2
      have hv : v ≠ .null := by
        rintro rfl
        cases e <;> simp [WF] at b1 hk
      have a2 : ap ver flex (.opt e) v = 1 :: ap ver flex e v := by cases v <;> first | exact absurd rfl hv | rfl
      refine ⟨by cases v <;> first | exact absurd rfl hv | exact b1, ?_⟩
      rw [a2]
      simp only [List.length_cons]
      omega
  | .done, _, bs, r, v, hb, h => by
    obtain ⟨rfl, rfl⟩ := pure_some h
    exact ⟨trivial, by simp [ap]⟩
  | .tags _, _, bs, r, v, hb, h => by
    unfold rd rdTags at h
    cases flex
    · simp only [Bool.false_eq_true, if_false] at h
      obtain ⟨rfl, rfl⟩ := pure_some h
      exact ⟨⟨trivial, by simp, (fun t ht => nomatch ht), fun _ => rfl⟩, by simp [ap]⟩
    · simp only [if_true] at h
      obtain ⟨l, r1, h1, h2⟩ := bind_some h
      obtain ⟨rfl, rfl⟩ := pure_some h2
      obtain ⟨a1, a2, a3, a4, a5, a6⟩ := out_tagsRaw hb h1
      exact ⟨⟨a1, by omega, a5, fun h => nomatch h⟩, by simpa [ap] using a6⟩
  | .cons off lo hi f rest, hk, bs, r, v, hb, h => by
    simp only [okS, Bool.and_eq_true, Bool.or_eq_true, Bool.not_eq_true'] at hk
    unfold rd at h
    by_cases hv : hasV lo hi ver = true
    · rw [if_pos hv] at h
      obtain ⟨x, r1, h1, h2⟩ := bind_some h
      obtain ⟨y, r2, h3, h4⟩ := bind_some h2
      obtain ⟨rfl, rfl⟩ := pure_some h4
      obtain ⟨a1, a2⟩ := rd_out ver flex f (hk.1.resolve_left (by rw [hv]; exact fun h => by cases h)) hb h1
      obtain ⟨b1, b2⟩ := rd_out ver flex rest hk.2 (by omega) h3
      refine ⟨⟨fun _ => a1, b1⟩, ?_⟩
      simp only [ap, if_pos hv, List.length_append]
      omega
    · rw [if_neg hv] at h
      obtain ⟨y, r2, h3, h4⟩ := bind_some h
      obtain ⟨rfl, rfl⟩ := pure_some h4
      obtain ⟨b1, b2⟩ := rd_out ver flex rest hk.2 (by omega) h3
      refine ⟨⟨fun h => absurd h hv, b1⟩, ?_⟩
      simp only [ap, if_neg hv, List.nil_append]
      exact b2
end Go.Proofs.YtkhpglongkhbjaaGreatDoorR

/- The reader's numbers in groups of seven bits, texts, octets, counts. -/
namespace Go.Proofs.YtkhpglongkhbjaaGreatDoorR
open Go Go.RowKit
set_option linter.unusedVariables false

theorem and8_lo {u : UInt8} (h : u.toNat < 128) : bits BinOp.and IntKind.u8 (u.toNat : Int) 128 = 0 := by
  rw [u8and128 _ u.toNat_lt, if_pos h]
theorem and8_hi {u : UInt8} (h : ¬ u.toNat < 128) : bits BinOp.and IntKind.u8 (u.toNat : Int) 128 = 128 := by
  rw [u8and128 _ u.toNat_lt, if_neg h]
theorem and8_7 (u : UInt8) : bits BinOp.and IntKind.u8 (u.toNat : Int) 127 = ((u.toNat % 128 : Nat) : Int) := u8and127 _ u.toNat_lt
set_option maxHeartbeats 1000000 in
theorem kUvarint (O : List Nat) (w : World) (v : Value) (bs : List UInt8) (h : RB O w v bs) : Calls Tryz.prog 79 #[v] w (UvOut bs w) := by
  obtain ⟨a, cap, rfl, h1, h2, h3⟩ := h
  by_cases hne : bs = []
  · subst hne
    exact uvL0 [] w a 0 cap (by omega) (by omega) rfl
  obtain ⟨b, o, rfl, -, hc⟩ := h3 hne
  cases bs with
  | nil => exact absurd rfl hne
  | cons u0 r0 =>
    by_cases h10 : u0.toNat < 128
    · exact uvS1 (u0 :: r0) w b o (u0 :: r0).length cap u0.toNat (u0.toNat % 128) (by simp; omega) rfl (hc 0 u0 rfl) (and8_7 u0) (and8_lo h10) (by omega) (by simp [rdUv, rdUvF, h10] <;> omega)
    · cases r0 with
      | nil => exact uvL1 [u0] w b o 1 cap u0.toNat (u0.toNat % 128) (by omega) (by omega) (hc 0 u0 rfl) (and8_7 u0) (and8_hi h10) (by simp [rdUv, rdUvF, h10])
      | cons u1 r1 =>
        by_cases h11 : u1.toNat < 128
        · exact uvS2 (u0 :: u1 :: r1) w b o (u0 :: u1 :: r1).length cap u0.toNat u1.toNat (u0.toNat % 128) (u1.toNat % 128) (by simp; omega) rfl (hc 0 u0 rfl) (hc 1 u1 rfl) (and8_7 u0) (and8_hi h10) (and8_7 u1) (and8_lo h11) (by omega) (by omega) (by simp [rdUv, rdUvF, h10, h11] <;> omega)
        · cases r1 with
          | nil => exact uvL2 [u0, u1] w b o 2 cap u0.toNat u1.toNat (u0.toNat % 128) (u1.toNat % 128) (by omega) (by omega) (hc 0 u0 rfl) (hc 1 u1 rfl) (and8_7 u0) (and8_hi h10) (and8_7 u1) (and8_hi h11) (by simp [rdUv, rdUvF, h10, h11])
          | cons u2 r2 =>
            by_cases h12 : u2.toNat < 128
            · exact uvS3 (u0 :: u1 :: u2 :: r2) w b o (u0 :: u1 :: u2 :: r2).length cap u0.toNat u1.toNat u2.toNat (u0.toNat % 128) (u1.toNat % 128) (u2.toNat % 128) (by simp; omega) rfl (hc 0 u0 rfl) (hc 1 u1 rfl) (hc 2 u2 rfl) (and8_7 u0) (and8_hi h10) (and8_7 u1) (and8_hi h11) (and8_7 u2) (and8_lo h12) (by omega) (by omega) (by omega) (by simp [rdUv, rdUvF, h10, h11, h12] <;> omega)
            · cases r2 with
              | nil => exact uvL3 [u0, u1, u2] w b o 3 cap u0.toNat u1.toNat u2.toNat (u0.toNat % 128) (u1.toNat % 128) (u2.toNat % 128) (by omega) (by omega) (hc 0 u0 rfl) (hc 1 u1 rfl) (hc 2 u2 rfl) (and8_7 u0) (and8_hi h10) (and8_7 u1) (and8_hi h11) (and8_7 u2) (and8_hi h12) (by simp [rdUv, rdUvF, h10, h11, h12])
              | cons u3 r3 =>
                by_cases h13 : u3.toNat < 128
                · exact uvS4 (u0 :: u1 :: u2 :: u3 :: r3) w b o (u0 :: u1 :: u2 :: u3 :: r3).length cap u0.toNat u1.toNat u2.toNat u3.toNat (u0.toNat % 128) (u1.toNat % 128) (u2.toNat % 128) (u3.toNat % 128) (by simp; omega) rfl (hc 0 u0 rfl) (hc 1 u1 rfl) (hc 2 u2 rfl) (hc 3 u3 rfl) (and8_7 u0) (and8_hi h10) (and8_7 u1) (and8_hi h11) (and8_7 u2) (and8_hi h12) (and8_7 u3) (and8_lo h13) (by omega) (by omega) (by omega) (by omega) (by simp [rdUv, rdUvF, h10, h11, h12, h13] <;> omega)
                · cases r3 with
                  | nil => exact uvL4 [u0, u1, u2, u3] w b o 4 cap u0.toNat u1.toNat u2.toNat u3.toNat (u0.toNat % 128) (u1.toNat % 128) (u2.toNat % 128) (u3.toNat % 128) (by omega) (by omega) (hc 0 u0 rfl) (hc 1 u1 rfl) (hc 2 u2 rfl) (hc 3 u3 rfl) (and8_7 u0) (and8_hi h10) (and8_7 u1) (and8_hi h11) (and8_7 u2) (and8_hi h12) (and8_7 u3) (and8_hi h13) (by simp [rdUv, rdUvF, h10, h11, h12, h13])
                  | cons u4 r4 =>
                    by_cases h14 : u4.toNat ≤ 15
                    · exact uvS5 (u0 :: u1 :: u2 :: u3 :: u4 :: r4) w b o (u0 :: u1 :: u2 :: u3 :: u4 :: r4).length cap u0.toNat u1.toNat u2.toNat u3.toNat u4.toNat (u0.toNat % 128) (u1.toNat % 128) (u2.toNat % 128) (u3.toNat % 128) (by simp; omega) rfl (hc 0 u0 rfl) (hc 1 u1 rfl) (hc 2 u2 rfl) (hc 3 u3 rfl) (hc 4 u4 rfl) (and8_7 u0) (and8_hi h10) (and8_7 u1) (and8_hi h11) (and8_7 u2) (and8_hi h12) (and8_7 u3) (and8_hi h13) (by omega) (by omega) (by omega) (by omega) (by omega) (by omega) (by simp [rdUv, rdUvF, h10, h11, h12, h13, h14] <;> omega)
                    · exact uvOver (u0 :: u1 :: u2 :: u3 :: u4 :: r4) w b o (u0 :: u1 :: u2 :: u3 :: u4 :: r4).length cap u0.toNat u1.toNat u2.toNat u3.toNat u4.toNat (u0.toNat % 128) (u1.toNat % 128) (u2.toNat % 128) (u3.toNat % 128) (by simp; omega) (hc 0 u0 rfl) (hc 1 u1 rfl) (hc 2 u2 rfl) (hc 3 u3 rfl) (hc 4 u4 rfl) (and8_7 u0) (and8_hi h10) (and8_7 u1) (and8_hi h11) (and8_7 u2) (and8_hi h12) (and8_7 u3) (and8_hi h13) (by omega) (by simp [rdUv, rdUvF, h10, h11, h12, h13, h14])

set_option maxHeartbeats 1000000 in
theorem rUvarint : RdC Tryz.prog 65 rdUv (fun _ _ v n => v = .int .u32 (n : Nat)) (fun v => v = .int .u32 0) := by
  intro O rb w st hO hlt h
  obtain ⟨bs, a, cap, f, hB, hr, hst⟩ : ∃ (bs : List UInt8) (a : Option Addr) (cap : Nat) (f : Bool), Blk w rb [.slice a bs.length cap, .bool f] 70 ∧ RB O w (.slice a bs.length cap) bs ∧ (st = some bs ∧ f = false ∧ bs.length ≤ lim ∨ (st = none ∧ bs = [])) := by
    cases st with
    | none => exact ⟨[], none, 0, true, h, RB.nil _ _, .inr ⟨rfl, rfl⟩⟩
    | some bs =>
      obtain ⟨sv, hB, hr, hM⟩ := h
      obtain ⟨a, cap, rfl, h1, h2, h3⟩ := id hr
      exact ⟨bs, a, cap, false, hB, hr, .inl ⟨rfl, rfl, hM⟩⟩
  have m0 := hB.cell_some (i := 0) rfl
  have f0 := hB.frozen 0
  have f1 := hB.frozen 1
  have m1 := hB.cell_some (i := 1) rfl
  have UV := Lib.hid (kUvarint O w _ bs hr)
  have Z := Lib.hid (And.intro hB (And.intro hr hst))
  obtain ⟨a', cap', e', hc1, hc2, -⟩ := id hr
  cases e'
  clear hB hr hst h hlt
  generalize hn : bs.length = n at *
  have N := Lib.hid hn
  clear hn
  go_enter Tryz.func65, Tryz.ntmps65
  go_wp2_with fail
  refine UV.out.mono ?_
  rintro e w' (⟨hk, hr, rfl, rfl⟩ | ⟨hk, hr, rfl, rfl⟩)
  · rename_i x k
    have hn := N.out
    rw [hn] at hk
    have k0 : (0 : Int) < k := by omega
    have k1 : (k : Int) ≤ n := by omega
    have HR := Lib.hid (And.intro hk hr)
    clear hr hk hn
    go_wp2
    all_goals go_ret
    all_goals
      obtain ⟨hB, hrb, hst⟩ := Z.out
      rcases hst with ⟨rfl, rfl, hM⟩ | ⟨rfl, rfl⟩
      · have hn := N.out
        subst hn
        exact .good HR.out.2 (Rdr.advG hM hO hB hrb (k := k) HR.out.1.2 (by first | exact .inl rfl | exact .inr ⟨by first | rfl | assumption, rfl⟩)) rfl
      · exact absurd HR.out.2 (by simp [rdUv, rdUvF])
  · rename_i k
    have HR := Lib.hid hr
    clear hr
    go_wp2
    go_ret
    obtain ⟨hB, hrb, hst⟩ := Z.out
    have hf := Rdr.fail (O := O) (T := 0) (N.out ▸ hB)
    refine .bad ?_ hf.1 hf.2 rfl
    rcases hst with ⟨rfl, rfl, hM⟩ | ⟨rfl, rfl⟩
    · exact HR.out
    · rfl
theorem fold_push (bs : List UInt8) : ∀ acc : ByteArray, (bs.map fun u => ((u.toNat : Nat) : Int)).foldl (fun r n => r.push (UInt8.ofNat n.toNat)) acc = ⟨acc.data ++ bs.toArray⟩ := by
  induction bs with
  | nil => intro acc; simp
  | cons u l ih =>
    intro acc
    simp only [List.map_cons, List.foldl_cons]
    rw [ih]
    congr 1
    simp [ByteArray.push]
theorem run_str {P : Program} {O : List Nat} {w : World} {v : Value} {bs : List UInt8} (h : RB O w v bs) : (Conv.bytesToString v).run P w = .ok (.string ⟨bs.toArray⟩) w := by
  obtain ⟨a, cap, rfl, h1, h2, h3⟩ := h
  have key : ∀ ad : Addr, (loadCells ad bs.length).run P w = .ok (bs.map byteV).toArray w → (Conv.bytesToString (.slice (some ad) bs.length cap)).run P w = .ok (.string ⟨bs.toArray⟩) w := by
    intro ad hl
    have hm : bs.map byteV = (bs.map fun u => ((u.toNat : Nat) : Int)).map (Value.int .u8) := by
      rw [List.map_map]
      rfl
    rw [hm] at hl
    rw [run_bytesToString w ad bs.length cap _ hl, fold_push]
    simp
  cases a with
  | none =>
    have hn : bs = [] := by
      by_cases hne : bs = []
      · exact hne
      · obtain ⟨b, o, hab, -⟩ := h3 hne
        cases hab
    subst hn
    simp [Conv.bytesToString]
    rfl
  | some ad =>
    by_cases hne : bs = []
    · subst hne
      exact key ad (run_loadCells_list (P := P) w ad [] (fun j v hj => by simp at hj))
    · obtain ⟨b, o, hab, -, hc⟩ := h3 hne
      cases hab
      refine key _ ?_
      have := run_loadCells_list (P := P) w ⟨b, o, none⟩ (bs.map byteV) (fun j v hj => by
        rw [List.getElem?_map] at hj
        cases hbj : bs[j]? with
        | none => simp [hbj] at hj
        | some c =>
          rw [hbj] at hj
          cases hj
          rw [Addr.add_lit]
          exact hc j c hbj)
      simpa using this
/-- Octets as a text. -/
theorem run_conv {O : List Nat} {w : World} {v : Value} {bs : List UInt8} (h : RB O w v bs) : (convert 22 9 v).run Tryz.prog w = .ok (.string ⟨bs.toArray⟩) w := by
  have h2 := run_str (P := Tryz.prog) h
  obtain ⟨a, cap, rfl, -, -, -⟩ := h
  rw [run_convert_bytes_string w _ _ 5 a _ cap Tryz.underlying22 Tryz.underlying5 Tryz.underlying9]
  exact h2
theorem hlt_on {O O' : List Nat} {w w1 : World} (hlt : ∀ k, k ∈ O → k < w.heap.size) (hk : Keeps O' w w1) : ∀ k, k ∈ O → k < w1.heap.size := fun k hk' => Nat.lt_of_lt_of_le (hlt k hk') hk.size
theorem int_bounds {k : Nat} {m n : Int} {st : Option (List UInt8)} {r : List UInt8} (hm : 0 < m) (h : st.bind (rdInt k m) = some (n, r)) : -m ≤ n ∧ n < m := by
  cases st with
  | none => cases h
  | some bs =>
    obtain ⟨l, r', h1, h2⟩ := bind_some (p := rdNat k) h
    simp only [Pr.pure, Option.some.injEq, Prod.mk.injEq] at h2
    obtain ⟨rfl, rfl⟩ := h2
    have h3 := Int.emod_nonneg ((l : Int) + m) (b := 2 * m) (by omega)
    have h4 := Int.emod_lt_of_pos ((l : Int) + m) (b := 2 * m) (by omega)
    constructor <;> (unfold sg; omega)
theorem bind_st {α β : Type} (st : Option (List UInt8)) (p : Pr α) (f : α → Pr β) : st.bind (p.bind f) = (st.bind p).bind fun q => f q.1 q.2 := by
  cases st with
  | none => rfl
  | some bs =>
    change p.bind f bs = (p bs).bind _
    unfold Pr.bind
    cases p bs with
    | none => rfl
    | some q => rfl
theorem span_out {O : List Nat} {w : World} {rb : Nat} {l : Int} {r r2 s : List UInt8} (h : Rdr O w rb (some r)) (hy : rdSpan l r = some (s, r2)) : s.length ≤ lim ∧ (s.length : Int) = l := by
  obtain ⟨sv, -, -, hM⟩ := h
  unfold rdSpan at hy
  split at hy
  · cases hy
  · unfold rdTake at hy
    split at hy
    · simp only [Option.some.injEq, Prod.mk.injEq] at hy
      obtain ⟨rfl, rfl⟩ := hy
      rw [List.length_take]
      omega
    · cases hy
theorem str_false : rdStr false = (rdInt 2 32768).bind fun n => (rdSpan n).bind fun s => .pure (.bytes s) := by
  unfold rdStr
  simp only [Bool.false_eq_true, if_false]
  congr 1
  funext n
  unfold rdSpan
  split
  · rfl
  · rfl
theorem str_true : rdStr true = rdUv.bind fun n => (rdSpan ((n : Int) - 1)).bind fun s => .pure (.bytes s) := by
  unfold rdStr
  simp only [if_true]
  congr 1
  funext n
  unfold rdSpan
  by_cases hn : n = 0
  · rw [if_pos hn, if_pos (by omega)]
    rfl
  · rw [if_neg hn, if_neg (by omega), show ((n : Int) - 1).toNat = n - 1 by omega]
set_option maxRecDepth 100000 in
set_option maxHeartbeats 1000000 in
theorem rString : RdC Tryz.prog 35 (rdStr false) (fun O w v g => LV O w false v .str g) (fun v => v = .string ⟨#[]⟩) := by
  intro O rb w st hO hlt h
  have C1 := Lib.hid (rInt16 O rb w st hO hlt h)
  clear h
  go_enter Tryz.func35, Tryz.ntmps35
  go_wp2_with fail
  refine C1.out.mono ?_
  rintro e w1 ⟨v, rfl, h1, hk1, hD, hV⟩
  clear C1
  rcases hx : st.bind (rdInt 2 32768) with _ | ⟨n, r⟩
  · obtain rfl := hD hx
    rw [hx] at h1
    have C2 := Lib.hid (rSpan O rb w1 none 0 hO (hlt_on hlt hk1) h1)
    have X := Lib.hid (And.intro hx hk1)
    clear hD hV h1 hx hlt hk1
    go_wp2_with fail
    refine C2.out.mono ?_
    rintro e w2 ⟨v, rfl, h2, hk2, hD, hV⟩
    obtain rfl := hD rfl
    have hcv := run_conv (RB.nil O w2)
    have Z := Lib.hid (And.intro h2 hk2)
    clear hD hV h2 hk2
    go_wp2
    go_ret
    refine .bad ?_ Z.out.1 (X.out.2.trans Z.out.2) rfl
    rw [str_false, bind_st, X.out.1]
    rfl
  · obtain rfl := hV _ _ hx
    rw [hx] at h1
    have C2 := Lib.hid (rSpan O rb w1 (some r) n hO (hlt_on hlt hk1) h1)
    have H1 := Lib.hid h1
    have hn := int_bounds (by omega) hx
    have X := Lib.hid (And.intro hx hk1)
    clear hD hV h1 hx hk1 hlt
    go_wp2_with fail
    refine C2.out.mono ?_
    rintro e w2 ⟨v, rfl, h2, hk2, hD, hV⟩
    rcases hy : rdSpan n r with _ | ⟨s, r2⟩
    · obtain rfl := hD hy
      have hcv := run_conv (RB.nil O w2)
      rw [show (some r).bind (rdSpan n) = none from hy] at h2
      have Z := Lib.hid (And.intro h2 (And.intro hk2 hy))
      clear hD hV h2 hk2 hy
      go_wp2
      go_ret
      refine .bad ?_ Z.out.1 (X.out.2.trans Z.out.2.1) rfl
      rw [str_false, bind_st, X.out.1]
      exact bind_none Z.out.2.2
    · have hcv := run_conv (hV _ _ hy)
      rw [show (some r).bind (rdSpan n) = some (s, r2) from hy] at h2
      have Z := Lib.hid (And.intro h2 (And.intro hk2 hy))
      clear hD hV h2 hk2 hy
      go_wp2
      go_ret
      have hst : st.bind (rdStr false) = some (.bytes s, r2) := by
        rw [str_false, bind_st, X.out.1]
        exact bind_eq Z.out.2.2
      obtain ⟨l1, l2⟩ := span_out H1.out Z.out.2.2
      refine ⟨_, rfl, by rw [hst]; exact Z.out.1, X.out.2.trans Z.out.2.1, fun h => by rw [hst] at h; (cases h), fun x r' h => ?_⟩
      rw [hst] at h
      cases h
      exact ⟨rfl, by simp [strMax]; omega⟩
set_option maxRecDepth 100000 in
set_option maxHeartbeats 1000000 in
theorem rCompactString : RdC Tryz.prog 34 (rdStr true) (fun O w v g => LV O w true v .str g) (fun v => v = .string ⟨#[]⟩) := by
  intro O rb w st hO hlt h
  have C1 := Lib.hid (rUvarint O rb w st hO hlt h)
  clear h
  go_enter Tryz.func34, Tryz.ntmps34
  go_wp2_with fail
  refine C1.out.mono ?_
  rintro e w1 ⟨v, rfl, h1, hk1, hD, hV⟩
  clear C1
  rcases hx : st.bind rdUv with _ | ⟨n, r⟩
  · obtain rfl := hD hx
    rw [hx] at h1
    have C2 := Lib.hid (rSpan O rb w1 none (-1) hO (hlt_on hlt hk1) h1)
    have X := Lib.hid (And.intro hx hk1)
    clear hD hV h1 hx hlt hk1
    go_wp2_with fail
    refine C2.out.mono ?_
    rintro e w2 ⟨v, rfl, h2, hk2, hD, hV⟩
    obtain rfl := hD rfl
    have hcv := run_conv (RB.nil O w2)
    have Z := Lib.hid (And.intro h2 hk2)
    clear hD hV h2 hk2
    go_wp2
    go_ret
    refine .bad ?_ Z.out.1 (X.out.2.trans Z.out.2) rfl
    rw [str_true, bind_st, X.out.1]
    rfl
  · obtain rfl := hV _ _ hx
    rw [hx] at h1
    have C2 := Lib.hid (rSpan O rb w1 (some r) ((n : Int) - 1) hO (hlt_on hlt hk1) h1)
    have H1 := Lib.hid h1
    have hn : n ≤ 4294967295 := by
      cases st with
      | none => cases hx
      | some bs => exact (out_uv hx).1
    have X := Lib.hid (And.intro hx hk1)
    clear hD hV h1 hx hk1 hlt
    go_wp2_with fail
    refine C2.out.mono ?_
    rintro e w2 ⟨v, rfl, h2, hk2, hD, hV⟩
    rcases hy : rdSpan ((n : Int) - 1) r with _ | ⟨s, r2⟩
    · obtain rfl := hD hy
      have hcv := run_conv (RB.nil O w2)
      rw [show (some r).bind (rdSpan ((n : Int) - 1)) = none from hy] at h2
      have Z := Lib.hid (And.intro h2 (And.intro hk2 hy))
      clear hD hV h2 hk2 hy
      go_wp2
      go_ret
      refine .bad ?_ Z.out.1 (X.out.2.trans Z.out.2.1) rfl
      rw [str_true, bind_st, X.out.1]
      exact bind_none Z.out.2.2
    · have hcv := run_conv (hV _ _ hy)
      rw [show (some r).bind (rdSpan ((n : Int) - 1)) = some (s, r2) from hy] at h2
      have Z := Lib.hid (And.intro h2 (And.intro hk2 hy))
      clear hD hV h2 hk2 hy
      go_wp2
      go_ret
      have hst : st.bind (rdStr true) = some (.bytes s, r2) := by
        rw [str_true, bind_st, X.out.1]
        exact bind_eq Z.out.2.2
      obtain ⟨l1, l2⟩ := span_out H1.out Z.out.2.2
      refine ⟨_, rfl, by rw [hst]; exact Z.out.1, X.out.2.trans Z.out.2.1, fun h => by rw [hst] at h; (cases h), fun x r' h => ?_⟩
      rw [hst] at h
      cases h
      exact ⟨rfl, by simp [strMax]; omega⟩
end Go.Proofs.YtkhpglongkhbjaaGreatDoorR
