/- Reading into memory: the reader, the part that is being filled, what stays. -/
import Derived.Test.YtellhjpdpaeieaaDoorRd
import Derived.Test.YtellhjpdpaeieaaDoorApp
namespace Go.Proofs.YtellhjpdpaeieaaDoor
open Go Go.RowKit

/-- The reader in block rb: what is left, or that it has run out. -/
def Rdr (O : List Nat) (w : World) (rb : Nat) : Option (List UInt8) → Prop
  | none => Blk w rb [.slice none 0 0, .bool true] 119
  | some bs => ∃ sv, Blk w rb [sv, .bool false] 119 ∧ RB O w sv bs ∧ bs.length ≤ 2147483646
theorem Rdr.blk {O : List Nat} {w : World} {rb : Nat} {st : Option (List UInt8)} (h : Rdr O w rb st) : ∃ sv, Blk w rb [sv, .bool st.isNone] 119 := by
  cases st with
  | none => exact ⟨_, h⟩
  | some bs => obtain ⟨sv, h, -⟩ := h; exact ⟨sv, h⟩
theorem Rdr.other {O O' : List Nat} {w w' : World} {rb : Nat} {st : Option (List UInt8)} (h : Rdr O w rb st) (hk : Keeps O' w w') (hrb : rb ∉ O') (hO : ∀ k, k ∈ O' → k ∈ O) : Rdr O w' rb st := by
  cases st with
  | none => exact Blk.keeps h hk hrb
  | some bs =>
    obtain ⟨sv, h, hr, hl⟩ := h
    exact ⟨sv, h.keeps hk hrb, hr.keeps (hk.mono hO), hl⟩
theorem Rdr.open {O : List Nat} {w : World} {rb n : Nat} {st : Option (List UInt8)} (h : Rdr O w rb st) (hn : w.heap.size ≤ n) : Rdr (n :: O) w rb st := by
  cases st with
  | none => exact h
  | some bs =>
    obtain ⟨sv, h, hr, hl⟩ := h
    exact ⟨sv, h, hr.openNew hn, hl⟩
theorem Rdr.mono {O O' : List Nat} {w : World} {rb : Nat} {st : Option (List UInt8)} (h : Rdr O w rb st) (hO : ∀ k, k ∈ O' → k ∈ O) : Rdr O' w rb st := by
  cases st with
  | none => exact h
  | some bs =>
    obtain ⟨sv, h, hr, hl⟩ := h
    exact ⟨sv, h, hr.mono hO, hl⟩

/-- A value of a kind, as it stands in a slot ahead of its store. -/
def LV (O : List Nat) (w : World) (flex : Bool) (x : Value) : Leaf → GV → Prop
  | .i8, .int n => x = .int .i8 n ∧ -128 ≤ n ∧ n ≤ 127
  | .i16, .int n => x = .int .i16 n ∧ -32768 ≤ n ∧ n ≤ 32767
  | .i32, .int n => x = .int .i32 n ∧ -2147483648 ≤ n ∧ n ≤ 2147483647
  | .i64, .int n => x = .int .i64 n
  | .u16, .int n => x = .int .u16 n ∧ 0 ≤ n ∧ n ≤ 65535
  | .bool, .bool b => x = .bool b
  | .str, .bytes l => x = .string ⟨l.toArray⟩ ∧ l.length ≤ strMax flex
  | .nstr, .null => x = .pointer none
  | .nstr, .bytes l => (∃ p q, x = .pointer (some ⟨p, q, none⟩) ∧ p ∉ O ∧ w.cell? ⟨p, q, none⟩ = some (.string ⟨l.toArray⟩)) ∧ l.length ≤ strMax flex
  | .nstrFrom _, .null => x = .pointer none
  | .nstrFrom _, .bytes l => (∃ p q, x = .pointer (some ⟨p, q, none⟩) ∧ p ∉ O ∧ w.cell? ⟨p, q, none⟩ = some (.string ⟨l.toArray⟩)) ∧ l.length ≤ strMax flex
  | .bytes, .bytes l => RB O w x l ∧ l.length ≤ 2147483646
  | _, _ => False
theorem LV.keeps {O : List Nat} {w w' : World} {flex : Bool} {x : Value} {k : Leaf} {v : GV} (h : LV O w flex x k v) (hk : Keeps O w w') : LV O w' flex x k v := by
  cases k <;> cases v <;> simp only [LV] at h ⊢ <;> try exact h
  · obtain ⟨⟨p, q, h1, h2, h3⟩, h4⟩ := h
    exact ⟨⟨p, q, h1, h2, (World.cell?_of_block (hk.block p (World.block_lt_of_cell? w _ h3) h2)).trans h3⟩, h4⟩
  · exact ⟨h.1.keeps hk, h.2⟩
  · obtain ⟨⟨p, q, h1, h2, h3⟩, h4⟩ := h
    exact ⟨⟨p, q, h1, h2, (World.cell?_of_block (hk.block p (World.block_lt_of_cell? w _ h3) h2)).trans h3⟩, h4⟩
theorem LV.rep {O : List Nat} {w : World} {flex : Bool} {x : Value} {k : Leaf} {v : GV} {b o : Nat} (h : LV O w flex x k v) (hc : w.cell? ⟨b, o, none⟩ = some x) : RepLeaf O w flex b o k v := by
  cases k <;> cases v <;> simp only [LV] at h <;> try exact h.elim
  · obtain ⟨rfl, h1, h2⟩ := h; exact ⟨hc, h1, h2⟩
  · obtain ⟨rfl, h1, h2⟩ := h; exact ⟨hc, h1, h2⟩
  · obtain ⟨rfl, h1, h2⟩ := h; exact ⟨hc, h1, h2⟩
  · subst h; exact hc
  · obtain ⟨rfl, h1, h2⟩ := h; exact ⟨hc, h1, h2⟩
  · subst h; exact hc
  · obtain ⟨rfl, h1⟩ := h; exact ⟨hc, h1⟩
  · obtain ⟨⟨p, q, rfl, h2, h3⟩, h4⟩ := h
    exact ⟨⟨p, q, hc, h2, h3⟩, h4⟩
  · subst h; exact hc
  · exact ⟨⟨x, hc, h.1⟩, h.2⟩
  · obtain ⟨⟨p, q, rfl, h2, h3⟩, h4⟩ := h
    exact ⟨⟨p, q, hc, h2, h3⟩, h4⟩
  · subst h; exact hc

/-- Behind its last cell. -/
def top : Sch → Nat
  | .leaf .uuid => 16
  | .leaf _ => 1
  | .list _ _ _ => 1
  | .opt _ => 1
  | .done => 0
  | .tags off => off + 1
  | .cons off _ _ f rest => max (off + top f) (top rest)
/-- The cells of a part, as they are before it is read. -/
def Fresh (c : List Value) (o : Nat) : Sch → Prop
  | .leaf .uuid => o + 16 ≤ c.length
  | .leaf _ => o < c.length
  | .list _ _ _ => c[o]? = some (.slice none 0 0)
  | .opt _ => c[o]? = some (.pointer none)
  | .done => True
  | .tags off => c[o + off]? = some (.map none)
  | .cons off _ _ f rest => Fresh c (o + off) f ∧ Fresh c o rest
/-- A field that is no part within the part. -/
def single : Sch → Bool
  | .leaf _ => true
  | .list _ _ _ => true
  | .opt _ => true
  | _ => false
/-- A part whose fields lie one behind the other, from cell n on. -/
def ord : Nat → Sch → Bool
  | _, .done => true
  | n, .tags off => decide (n ≤ off)
  | n, .cons off _ _ f rest => decide (n ≤ off) && (single f || ord 0 f) && ord (off + top f) rest
  | _, _ => false
/-- Only the cells from i on, below j, have turned. -/
structure SameOut (c c' : List Value) (i j : Nat) : Prop where
  length : c'.length = c.length
  out : ∀ k, k < i ∨ j ≤ k → c'[k]? = c[k]?
theorem SameOut.refl (c : List Value) (i j : Nat) : SameOut c c i j := ⟨rfl, fun _ _ => rfl⟩
theorem SameOut.trans {c c' c'' : List Value} {i j i' j' : Nat} (h : SameOut c c' i j) (h' : SameOut c' c'' i' j') {m n : Nat} (h1 : m ≤ i ∧ m ≤ i') (h2 : j ≤ n ∧ j' ≤ n) : SameOut c c'' m n :=
  ⟨h'.length.trans h.length, fun k hk => (h'.out k (by omega)).trans (h.out k (by omega))⟩
theorem SameOut.mono {c c' : List Value} {i j m n : Nat} (h : SameOut c c' i j) (h1 : m ≤ i) (h2 : j ≤ n) : SameOut c c' m n := ⟨h.length, fun k hk => h.out k (by omega)⟩
theorem SameOut.set (c : List Value) (i : Nat) (v : Value) : SameOut c (c.set i v) i (i + 1) := ⟨by simp, fun k hk => by rw [List.getElem?_set_ne (by omega)]⟩
theorem Fresh.same : ∀ {s : Sch} {c c' : List Value} {o i j : Nat}, Fresh c o s → SameOut c c' i j → (o + top s ≤ i ∨ j ≤ o) → Fresh c' o s
  | .leaf k, c, c', o, i, j, h, hs, hd => by cases k <;> simp only [Fresh] at h ⊢ <;> (rw [hs.length]; exact h)
  | .list _ _ _, c, c', o, i, j, h, hs, hd => by simp only [top] at hd; exact (hs.out o (by omega)).trans h
  | .opt _, c, c', o, i, j, h, hs, hd => by simp only [top] at hd; exact (hs.out o (by omega)).trans h
  | .done, _, _, _, _, _, _, _, _ => trivial
  | .tags off, c, c', o, i, j, h, hs, hd => by simp only [top] at hd; exact (hs.out (o + off) (by omega)).trans h
  | .cons off lo hi f rest, c, c', o, i, j, h, hs, hd => by
    simp only [top] at hd
    exact ⟨Fresh.same h.1 hs (by omega), Fresh.same h.2 hs (by omega)⟩
/-- The same of fields from cell n on: what is below may turn. -/
theorem Fresh.behind : ∀ {s : Sch} {c c' : List Value} {o n i j : Nat}, Fresh c o s → SameOut c c' i j → ord n s = true → j ≤ o + n → Fresh c' o s
  | .done, _, _, _, _, _, _, _, _, _, _ => trivial
  | .tags off, c, c', o, n, i, j, h, hs, ho, hj => by
    simp only [ord, decide_eq_true_eq] at ho
    exact (hs.out (o + off) (by omega)).trans h
  | .cons off lo hi f rest, c, c', o, n, i, j, h, hs, ho, hj => by
    simp only [ord, Bool.and_eq_true, decide_eq_true_eq] at ho
    exact ⟨Fresh.same h.1 hs (by omega), Fresh.behind h.2 hs ho.2 (by omega)⟩
  | .leaf _, _, _, _, _, _, _, _, _, ho, _ => by cases ho
  | .list _ _ _, _, _, _, _, _, _, _, _, ho, _ => by cases ho
  | .opt _, _, _, _, _, _, _, _, _, ho, _ => by cases ho

/-- What a reading of tags must bear: it stays where the open blocks alone turn. -/
def RTKeep (RT : RTags) : Prop := ∀ (O : List Nat) (w w' : World) (b o : Nat) (l : List (Nat × List UInt8)), RT O w b o l → Keeps O w w' → w'.cell? ⟨b, o, none⟩ = w.cell? ⟨b, o, none⟩ → RT O w' b o l
/-- Open blocks that are shut. -/
def RTMono (RT : RTags) : Prop := ∀ (O O' : List Nat) (w : World) (b o : Nat) (l : List (Nat × List UInt8)), RT O w b o l → (∀ k, k ∈ O' → k ∈ O) → RT O' w b o l
theorem RepLeaf.move {O : List Nat} {w w' : World} {flex : Bool} {k : Leaf} {b o : Nat} {v : GV} (h : RepLeaf O w flex b o k v) (hk : Keeps O w w') (hc : ∀ i, i < top (.leaf k) → w'.cell? ⟨b, o + i, none⟩ = w.cell? ⟨b, o + i, none⟩) : RepLeaf O w' flex b o k v := by
  have h0 : k ≠ .uuid → w'.cell? ⟨b, o, none⟩ = w.cell? ⟨b, o, none⟩ := fun hk => hc 0 (by cases k <;> first | exact absurd rfl hk | exact Nat.zero_lt_one)
  have hp : ∀ p q x, p ∉ O → w.cell? ⟨p, q, none⟩ = some x → w'.cell? ⟨p, q, none⟩ = some x := fun p q x h2 h3 => (World.cell?_of_block (hk.block p (World.block_lt_of_cell? w _ h3) h2)).trans h3
  cases k
  case uuid =>
    cases v <;> simp only [RepLeaf] at h ⊢ <;> try exact h
    refine ⟨h.1, fun i u hi => ?_⟩
    have hlt : i < 16 := by
      rw [← h.1]
      exact (List.getElem?_eq_some_iff.1 hi).1
    rw [hc i hlt]
    exact h.2 i u hi
  all_goals
    have h1 := h0 (fun h => nomatch h)
    cases v <;> simp only [RepLeaf, h1] at h ⊢ <;> try exact h
  · obtain ⟨⟨p, q, h1, h2, h3⟩, h4⟩ := h
    exact ⟨⟨p, q, h1, h2, hp p q _ h2 h3⟩, h4⟩
  · obtain ⟨⟨x, h1, h2⟩, h4⟩ := h
    exact ⟨⟨x, h1, h2.keeps hk⟩, h4⟩
  · obtain ⟨⟨p, q, h1, h2, h3⟩, h4⟩ := h
    exact ⟨⟨p, q, h1, h2, hp p q _ h2 h3⟩, h4⟩
theorem Rep.move {RT : RTags} (hRT : RTKeep RT) {O : List Nat} {w w' : World} {ver : Int} {flex : Bool} (hk : Keeps O w w') : ∀ {s : Sch} {b o : Nat} {v : GV}, Rep RT O w ver flex s b o v → (∀ i, i < top s → w'.cell? ⟨b, o + i, none⟩ = w.cell? ⟨b, o + i, none⟩) → Rep RT O w' ver flex s b o v
  | .leaf k, b, o, v, h, hc => RepLeaf.move h hk hc
  | .list nul z e, b, o, v, h, hc => by
    have h0 : w'.cell? ⟨b, o, none⟩ = w.cell? ⟨b, o, none⟩ := hc 0 Nat.zero_lt_one
    cases v <;> simp only [Rep, h0] at h ⊢ <;> try exact h
    obtain ⟨a, cap, h1, h2, h3, h4⟩ := h
    refine ⟨a, cap, h1, h2, h3, fun hne => ?_⟩
    obtain ⟨p, q, rfl, h5, h6, h7⟩ := h4 hne
    refine ⟨p, q, rfl, h5, Nat.lt_of_lt_of_le h6 hk.size, fun i v hi => Rep.move hRT hk (h7 i v hi) fun j _ => World.cell?_of_block (hk.block p h6 h5)⟩
  | .opt e, b, o, v, h, hc => by
    have h0 : w'.cell? ⟨b, o, none⟩ = w.cell? ⟨b, o, none⟩ := hc 0 Nat.zero_lt_one
    cases v <;> simp only [Rep, h0] at h ⊢ <;> try exact h
    all_goals
      obtain ⟨p, q, h1, h5, h6, h7⟩ := h
      exact ⟨p, q, h1, h5, Nat.lt_of_lt_of_le h6 hk.size, Rep.move hRT hk h7 fun j _ => World.cell?_of_block (hk.block p h6 h5)⟩
  | .done, b, o, v, h, hc => by cases v <;> simp only [Rep] at h ⊢
  | .tags off, b, o, v, h, hc => by
    cases v <;> simp only [Rep] at h ⊢
    exact hRT _ _ _ _ _ _ h hk (hc off (by simp [top]))
  | .cons off lo hi f rest, b, o, v, h, hc => by
    cases v <;> simp only [Rep] at h ⊢ <;> try exact h
    refine ⟨fun hv => Rep.move hRT hk (h.1 hv) fun i hi => ?_, Rep.move hRT hk h.2 fun i hi => hc i (by simp only [top]; omega)⟩
    rw [Nat.add_assoc]
    exact hc (off + i) (by simp only [top]; omega)
theorem RepLeaf.mono {O O' : List Nat} {w : World} {flex : Bool} {k : Leaf} {b o : Nat} {v : GV} (hO : ∀ k, k ∈ O' → k ∈ O) (h : RepLeaf O w flex b o k v) : RepLeaf O' w flex b o k v := by
  cases k <;> cases v <;> simp only [RepLeaf] at h ⊢ <;> try exact h
  · obtain ⟨⟨p, q, h1, h2, h3⟩, h4⟩ := h
    exact ⟨⟨p, q, h1, fun x => h2 (hO p x), h3⟩, h4⟩
  · obtain ⟨⟨x, h1, h2⟩, h4⟩ := h
    exact ⟨⟨x, h1, h2.mono hO⟩, h4⟩
  · obtain ⟨⟨p, q, h1, h2, h3⟩, h4⟩ := h
    exact ⟨⟨p, q, h1, fun x => h2 (hO p x), h3⟩, h4⟩
theorem Rep.mono {RT : RTags} (hRT : RTMono RT) {O O' : List Nat} {w : World} {ver : Int} {flex : Bool} (hO : ∀ k, k ∈ O' → k ∈ O) : ∀ {s : Sch} {b o : Nat} {v : GV}, Rep RT O w ver flex s b o v → Rep RT O' w ver flex s b o v
  | .leaf k, b, o, v, h => RepLeaf.mono hO h
  | .list nul z e, b, o, v, h => by
    cases v <;> simp only [Rep] at h ⊢ <;> try exact h
    obtain ⟨a, cap, h1, h2, h3, h4⟩ := h
    refine ⟨a, cap, h1, h2, h3, fun hne => ?_⟩
    obtain ⟨p, q, rfl, h5, h6, h7⟩ := h4 hne
    exact ⟨p, q, rfl, fun x => h5 (hO p x), h6, fun i v hi => Rep.mono hRT hO (h7 i v hi)⟩
  | .opt e, b, o, v, h => by
    cases v <;> simp only [Rep] at h ⊢ <;> try exact h
    all_goals
      obtain ⟨p, q, h1, h5, h6, h7⟩ := h
      exact ⟨p, q, h1, fun x => h5 (hO p x), h6, Rep.mono hRT hO h7⟩
  | .done, b, o, v, h => by cases v <;> simp only [Rep] at h ⊢
  | .tags off, b, o, v, h => by
    cases v <;> simp only [Rep] at h ⊢
    exact hRT _ _ _ _ _ _ h hO
  | .cons off lo hi f rest, b, o, v, h => by
    cases v <;> simp only [Rep] at h ⊢ <;> try exact h
    exact ⟨fun hv => Rep.mono hRT hO (h.1 hv), Rep.mono hRT hO h.2⟩
theorem repTags_keep : RTKeep RepTags := by
  rintro O w w' b o l h hk hc
  rcases h with ⟨h1, h2⟩ | ⟨r, es, kvs, h1, h2, h3, h4, h5, h6, h7, h8⟩
  · exact .inl ⟨h1, hc.trans h2⟩
  · refine .inr ⟨r, es, kvs, hc.trans h1, h2, (hk.block r (Array.getElem?_eq_some_iff.1 h3).1 h2).trans h3, h4, fun i kv hi => ?_, h6, h7, h8⟩
    obtain ⟨e, e1, e2, e3, e4, e5, e6⟩ := h5 i kv hi
    exact ⟨e, e1, e2, e3, e4, e5.keeps hk, e6⟩
theorem repTags_mono : RTMono RepTags := by
  rintro O O' w b o l h hO
  rcases h with ⟨h1, h2⟩ | ⟨r, es, kvs, h1, h2, h3, h4, h5, h6, h7, h8⟩
  · exact .inl ⟨h1, h2⟩
  · refine .inr ⟨r, es, kvs, h1, fun x => h2 (hO r x), h3, h4, fun i kv hi => ?_, h6, h7, h8⟩
    obtain ⟨e, e1, e2, e3, e4, e5, e6⟩ := h5 i kv hi
    exact ⟨e, e1, e2, e3, e4, e5.mono hO, e6⟩
theorem Blk.same {w w' : World} {b T T' i j : Nat} {c c' : List Value} (h : Blk w b c T) (h' : Blk w' b c' T') (hs : SameOut c c' i j) (k : Nat) (hk : k < i ∨ j ≤ k) : w'.cell? ⟨b, k, none⟩ = w.cell? ⟨b, k, none⟩ := by
  rw [h.cell, h'.cell]
  exact hs.out k hk
end Go.Proofs.YtellhjpdpaeieaaDoor
