/- Shared texts of these proofs, laid together by merge.py: Rdw, Rdo, Rv, Rw. -/
import Derived.Test.YtmpilpgabelmiaaGreatDoorVa
import Derived.Test.YtmpilpgabelmiaaGreatDoorVb
import Derived.Laws.BytesString
set_option linter.unusedVariables false
/- What is written is read again; what is read can be written. Plain functions over bytes: no program in sight. -/
namespace Go.Proofs.YtmpilpgabelmiaaGreatDoor

/-- Just the octets s are read, as v. -/
def Exact {α : Type} (s : List UInt8) (p : Pr α) (v : α) : Prop := ∀ x, p (s ++ x) = some (v, x)
theorem Exact.bind {α β : Type} {p : Pr α} {f : α → Pr β} {s s' : List UInt8} {v : α} {u : β} (h : Exact s p v) (k : Exact s' (f v) u) : Exact (s ++ s') (p.bind f) u := by
  intro x
  rw [List.append_assoc, bind_eq (h _)]
  exact k x
theorem Exact.pure {α : Type} (v : α) : Exact [] (Pr.pure v) v := fun _ => rfl
theorem Exact.bind_pure {α β : Type} {p : Pr α} {f : α → β} {s : List UInt8} {v : α} (h : Exact s p v) : Exact s (p.bind fun v => Pr.pure (f v)) (f v) := by
  have := Exact.bind (f := fun v => Pr.pure (f v)) h (Exact.pure (f v))
  rwa [List.append_nil] at this
theorem Exact.of_eq {α : Type} {s s' : List UInt8} {p : Pr α} {v : α} (h : Exact s p v) (e : s = s') : Exact s' p v := e ▸ h
theorem Exact.take (s : List UInt8) : Exact s (rdTake s.length) s := by
  intro x
  unfold rdTake
  simp
theorem Exact.take' {s : List UInt8} {n : Nat} (h : n = s.length) : Exact s (rdTake n) s := by subst h; exact Exact.take s

theorem bb_toNat (n : Int) : ((bb n).toNat : Int) = n % 256 := by
  unfold bb
  simp
  omega
theorem beNat1 (n : Int) : (beNat [bb n] : Int) = n % 256 := by
  have := bb_toNat n
  simp [beNat]
  omega
theorem beNat16 (n : Int) : (beNat (be16 n) : Int) = n % 65536 := by
  have h0 := bb_toNat n
  have h1 := bb_toNat (n / 256)
  simp only [beNat, be16, List.foldl_cons, List.foldl_nil]
  omega
theorem beNat32 (n : Int) : (beNat (be32 n) : Int) = n % 4294967296 := by
  have h0 := bb_toNat n
  have h1 := bb_toNat (n / 256)
  have h2 := bb_toNat (n / 65536)
  have h3 := bb_toNat (n / 16777216)
  simp only [beNat, be32, List.foldl_cons, List.foldl_nil]
  omega
theorem beNat64 (n : Int) : (beNat (be64 n) : Int) = n % 18446744073709551616 := by
  have h0 := bb_toNat n
  have h1 := bb_toNat (n / 256)
  have h2 := bb_toNat (n / 65536)
  have h3 := bb_toNat (n / 16777216)
  have h4 := bb_toNat (n / 4294967296)
  have h5 := bb_toNat (n / 1099511627776)
  have h6 := bb_toNat (n / 281474976710656)
  have h7 := bb_toNat (n / 72057594037927936)
  simp only [beNat, be64, List.foldl_cons, List.foldl_nil]
  omega
theorem beNat_lt : ∀ (l : List UInt8), beNat l < 256 ^ l.length := by
  intro l
  have h : ∀ (l : List UInt8) (a : Nat), l.foldl (fun a b => a * 256 + b.toNat) a < (a + 1) * 256 ^ l.length := by
    intro l
    induction l with
    | nil => intro a; simp
    | cons b l ih =>
      intro a
      have := ih (a * 256 + b.toNat)
      have hb : b.toNat < 256 := b.toNat_lt
      simp only [List.foldl_cons, List.length_cons, Nat.pow_succ]
      refine Nat.lt_of_lt_of_le this ?_
      rw [Nat.mul_comm (256 ^ l.length) 256, ← Nat.mul_assoc]
      exact Nat.mul_le_mul_right _ (by omega)
  have := h l 0
  simpa [beNat] using this
theorem Exact.int1 {n : Int} (h0 : -128 ≤ n) (h1 : n ≤ 127) : Exact [bb n] (rdInt 1 128) n := by
  have h := Exact.bind_pure (f := fun m : Nat => sg 128 m) (Exact.bind_pure (f := beNat) (Exact.take' (s := [bb n]) (n := 1) rfl))
  have e : sg 128 (beNat [bb n]) = n := by rw [beNat1]; unfold sg; omega
  rw [e] at h
  exact h
theorem Exact.int2 {n : Int} (h0 : -32768 ≤ n) (h1 : n ≤ 32767) : Exact (be16 n) (rdInt 2 32768) n := by
  have h := Exact.bind_pure (f := fun m : Nat => sg 32768 m) (Exact.bind_pure (f := beNat) (Exact.take' (s := be16 n) (n := 2) rfl))
  have e : sg 32768 (beNat (be16 n)) = n := by rw [beNat16]; unfold sg; omega
  rw [e] at h
  exact h
theorem Exact.int4 {n : Int} (h0 : -2147483648 ≤ n) (h1 : n ≤ 2147483647) : Exact (be32 n) (rdInt 4 2147483648) n := by
  have h := Exact.bind_pure (f := fun m : Nat => sg 2147483648 m) (Exact.bind_pure (f := beNat) (Exact.take' (s := be32 n) (n := 4) rfl))
  have e : sg 2147483648 (beNat (be32 n)) = n := by rw [beNat32]; unfold sg; omega
  rw [e] at h
  exact h
theorem Exact.int8 {n : Int} (h0 : -9223372036854775808 ≤ n) (h1 : n ≤ 9223372036854775807) : Exact (be64 n) (rdInt 8 9223372036854775808) n := by
  have h := Exact.bind_pure (f := fun m : Nat => sg 9223372036854775808 m) (Exact.bind_pure (f := beNat) (Exact.take' (s := be64 n) (n := 8) rfl))
  have e : sg 9223372036854775808 (beNat (be64 n)) = n := by rw [beNat64]; unfold sg; omega
  rw [e] at h
  exact h
theorem Exact.nat2 {n : Nat} (h1 : n ≤ 65535) : Exact (be16 n) (rdNat 2) n := by
  have h := Exact.bind_pure (f := beNat) (Exact.take' (s := be16 n) (n := 2) rfl)
  have e : beNat (be16 n) = n := by have := beNat16 n; omega
  rw [e] at h
  exact h
theorem Exact.uvF : ∀ (k n : Nat), n < 16 * 128 ^ k → Exact (Proofs.YtmpilpgabelmiaaGreatDoor.uvF k n) (rdUvF k) n
  | 0, n, h => by
    intro x
    have e : (UInt8.ofNat n).toNat = n := by simp; omega
    have e2 : ((UInt8.ofNat n).toNat ≤ 15) := by omega
    simp only [Proofs.YtmpilpgabelmiaaGreatDoor.uvF, rdUvF, List.cons_append, List.nil_append]
    rw [if_pos e2, e]
  | k + 1, n, h => by
    intro x
    unfold Proofs.YtmpilpgabelmiaaGreatDoor.uvF
    split
    · rename_i hn
      have e : (UInt8.ofNat n).toNat = n := by simp; omega
      simp only [rdUvF, List.cons_append, List.nil_append]
      rw [e, if_pos hn]
    · rename_i hn
      have e : (UInt8.ofNat (n % 128 + 128)).toNat = n % 128 + 128 := by simp; omega
      simp only [rdUvF, List.cons_append]
      rw [e, if_neg (by omega), Exact.uvF k (n / 128) (by rw [Nat.pow_succ] at h; omega) x]
      simp only [Option.some.injEq, Prod.mk.injEq, and_true]
      omega
/-- More groups than are needed turn nothing. -/
theorem uvF_more : ∀ (k d n : Nat), n < 16 * 128 ^ k → Proofs.YtmpilpgabelmiaaGreatDoor.uvF (k + d) n = Proofs.YtmpilpgabelmiaaGreatDoor.uvF k n
  | 0, 0, n, _ => rfl
  | 0, d + 1, n, h => by
    have hn : n < 128 := by simp at h; omega
    rw [Nat.zero_add]
    simp only [Proofs.YtmpilpgabelmiaaGreatDoor.uvF, if_pos hn]
  | k + 1, d, n, h => by
    rw [show k + 1 + d = (k + d) + 1 by omega]
    simp only [Proofs.YtmpilpgabelmiaaGreatDoor.uvF]
    rw [uvF_more k d (n / 128) (by rw [Nat.pow_succ] at h; omega)]
theorem Exact.uv {n : Nat} (h : n ≤ 4294967295) : Exact (Proofs.YtmpilpgabelmiaaGreatDoor.uv n) rdUv n := by
  have h4 : n < 16 * 128 ^ 4 := by omega
  have e : Proofs.YtmpilpgabelmiaaGreatDoor.uv n = Proofs.YtmpilpgabelmiaaGreatDoor.uvF 4 n := uvF_more 4 5 n h4
  rw [e]
  exact Exact.uvF 4 n h4

/-- What can be said of a kind, and told. -/
def wfLeaf (ver : Int) (flex : Bool) : Leaf → GV → Prop
  | .i8, .int n => -128 ≤ n ∧ n ≤ 127
  | .i16, .int n => -32768 ≤ n ∧ n ≤ 32767
  | .u16, .int n => 0 ≤ n ∧ n ≤ 65535
  | .i32, .int n => -2147483648 ≤ n ∧ n ≤ 2147483647
  | .i64, .int n => -9223372036854775808 ≤ n ∧ n ≤ 9223372036854775807
  | .bool, .bool _ => True
  | .uuid, .bytes b => b.length = 16
  | .str, .bytes b => b.length ≤ strMax flex
  | .nstr, .bytes b => b.length ≤ strMax flex
  | .nstr, .null => True
  | .nstrFrom _, .bytes b => b.length ≤ strMax flex
  | .nstrFrom m, .null => ¬ ver < m
  | .bytes, .bytes b => b.length ≤ bMax flex
  | _, _ => False
theorem Exact.lenS {flex : Bool} {b : List UInt8} (hb : b.length ≤ strMax flex) : Exact (Proofs.YtmpilpgabelmiaaGreatDoor.lenS flex b.length ++ b) (rdStr flex) (.bytes b) := by
  cases flex
  · simp [strMax] at hb
    unfold rdStr Proofs.YtmpilpgabelmiaaGreatDoor.lenS
    simp only [Bool.false_eq_true, if_false]
    refine Exact.bind (v := (b.length : Int)) (Exact.int2 (by omega) (by omega)) ?_
    rw [if_neg (by omega)]
    refine Exact.bind_pure (f := GV.bytes) (Exact.take' (by omega))
  · simp [strMax] at hb
    unfold rdStr Proofs.YtmpilpgabelmiaaGreatDoor.lenS
    simp only [if_true]
    refine Exact.bind (v := b.length + 1) (Exact.uv (by omega)) ?_
    rw [if_neg (by omega)]
    refine Exact.bind_pure (f := GV.bytes) (Exact.take' (by omega))
theorem Exact.lenS' {flex : Bool} {b : List UInt8} (hb : b.length ≤ strMax flex) : Exact (Proofs.YtmpilpgabelmiaaGreatDoor.lenS flex b.length ++ b) (rdNStr flex) (.bytes b) := by
  cases flex
  · simp [strMax] at hb
    unfold rdNStr Proofs.YtmpilpgabelmiaaGreatDoor.lenS
    simp only [Bool.false_eq_true, if_false]
    refine Exact.bind (v := (b.length : Int)) (Exact.int2 (by omega) (by omega)) ?_
    rw [if_neg (by omega)]
    refine Exact.bind_pure (f := GV.bytes) (Exact.take' (by omega))
  · simp [strMax] at hb
    unfold rdNStr Proofs.YtmpilpgabelmiaaGreatDoor.lenS
    simp only [if_true]
    refine Exact.bind (v := b.length + 1) (Exact.uv (by omega)) ?_
    rw [if_neg (by omega)]
    refine Exact.bind_pure (f := GV.bytes) (Exact.take' (by omega))
theorem Exact.nulS (flex : Bool) : Exact (Proofs.YtmpilpgabelmiaaGreatDoor.nulS flex) (rdNStr flex) .null := by
  cases flex
  · unfold rdNStr Proofs.YtmpilpgabelmiaaGreatDoor.nulS
    simp only [Bool.false_eq_true, if_false]
    have := Exact.bind (f := fun n : Int => if n < 0 then Pr.pure GV.null else (rdTake n.toNat).bind fun s => .pure (.bytes s)) (Exact.int2 (n := -1) (by omega) (by omega)) (Exact.pure GV.null)
    rwa [List.append_nil] at this
  · unfold rdNStr Proofs.YtmpilpgabelmiaaGreatDoor.nulS
    simp only [if_true]
    have := Exact.bind (f := fun n : Nat => if n = 0 then Pr.pure GV.null else (rdTake (n - 1)).bind fun s => .pure (.bytes s)) (Exact.uv (n := 0) (by omega)) (Exact.pure GV.null)
    rwa [List.append_nil] at this
theorem Exact.lenB {flex : Bool} {b : List UInt8} (hb : b.length ≤ bMax flex) : Exact (Proofs.YtmpilpgabelmiaaGreatDoor.lenB flex b.length ++ b) (rdBytes flex) (.bytes b) := by
  cases flex
  · have hb : b.length ≤ 2147483647 := hb
    unfold rdBytes Proofs.YtmpilpgabelmiaaGreatDoor.lenB
    simp only [Bool.false_eq_true, if_false]
    refine Exact.bind (v := (b.length : Int)) (Exact.int4 (by omega) (by omega)) ?_
    rw [if_neg (by omega), if_neg (by omega)]
    refine Exact.bind_pure (f := GV.bytes) (Exact.take' (by omega))
  · have hb : b.length ≤ 4294967294 := hb
    unfold rdBytes Proofs.YtmpilpgabelmiaaGreatDoor.lenB
    simp only [if_true]
    refine Exact.bind (v := b.length + 1) (Exact.uv (by omega)) ?_
    rw [if_neg (by omega)]
    refine Exact.bind_pure (f := GV.bytes) (Exact.take' (by omega))
theorem exact_leaf {ver : Int} {flex : Bool} {k : Leaf} {v : GV} (h : wfLeaf ver flex k v) : Exact (apLeaf ver flex k v) (rdLeaf ver flex k) v := by
  cases k <;> cases v <;> simp only [wfLeaf] at h <;> try exact h.elim
  · exact Exact.bind_pure (f := GV.int) (Exact.int1 h.1 h.2)
  · exact Exact.bind_pure (f := GV.int) (Exact.int2 h.1 h.2)
  · exact Exact.bind_pure (f := GV.int) (Exact.int4 h.1 h.2)
  · exact Exact.bind_pure (f := GV.int) (Exact.int8 h.1 h.2)
  · rename_i n
    obtain ⟨m, rfl⟩ := Int.eq_ofNat_of_zero_le h.1
    exact Exact.bind_pure (f := fun n : Nat => GV.int n) (Exact.nat2 (by omega))
  · rename_i b
    intro x
    cases b <;> rfl
  · exact Exact.bind_pure (f := GV.bytes) (Exact.take' h.symm)
  · exact Exact.lenS h
  · exact Exact.lenS' h
  · exact Exact.nulS flex
  · exact Exact.lenB h
  · rename_i m b
    by_cases hm : ver < m
    · have e : rdLeaf ver flex (.nstrFrom m) = rdStr flex := if_pos hm
      rw [e]
      exact Exact.lenS h
    · have e : rdLeaf ver flex (.nstrFrom m) = rdNStr flex := if_neg hm
      rw [e]
      exact Exact.lenS' h
  · rename_i m
    have e : rdLeaf ver flex (.nstrFrom m) = rdNStr flex := if_neg h
    have e2 : apLeaf ver flex (.nstrFrom m) .null = Proofs.YtmpilpgabelmiaaGreatDoor.nulS flex := if_neg h
    rw [e, e2]
    exact Exact.nulS flex
theorem lenS_pos (flex : Bool) (n : Nat) : 1 ≤ (Proofs.YtmpilpgabelmiaaGreatDoor.lenS flex n).length := by
  unfold Proofs.YtmpilpgabelmiaaGreatDoor.lenS
  split
  · exact uv_pos _
  · simp [be16]
theorem nulS_pos (flex : Bool) : 1 ≤ (Proofs.YtmpilpgabelmiaaGreatDoor.nulS flex).length := by
  unfold Proofs.YtmpilpgabelmiaaGreatDoor.nulS
  split
  · exact uv_pos _
  · simp [be16]
theorem lenB_pos (flex : Bool) (n : Nat) : 1 ≤ (Proofs.YtmpilpgabelmiaaGreatDoor.lenB flex n).length := by
  unfold Proofs.YtmpilpgabelmiaaGreatDoor.lenB
  split
  · exact uv_pos _
  · simp [be32]
theorem nulB_pos (flex : Bool) : 1 ≤ (Proofs.YtmpilpgabelmiaaGreatDoor.nulB flex).length := by
  unfold Proofs.YtmpilpgabelmiaaGreatDoor.nulB
  split
  · exact uv_pos _
  · simp [be32]
theorem leaf_pos {ver : Int} {flex : Bool} {k : Leaf} {v : GV} (h : wfLeaf ver flex k v) : 1 ≤ (apLeaf ver flex k v).length := by
  have h1 := lenS_pos flex
  have h2 := nulS_pos flex
  have h3 := lenB_pos flex
  cases k <;> cases v <;> simp only [wfLeaf] at h <;> try exact h.elim
  all_goals simp only [apLeaf]
  all_goals first
    | (simp [be16, be32, be64]; done)
    | omega
    | (rename_i b; have := h1 b.length; simp only [List.length_append]; omega)
    | (rename_i b; have := h3 b.length; simp only [List.length_append]; omega)
    | (rw [if_neg h]; omega)

/-- Rising numbers, each once. -/
def rising : List (Nat × List UInt8) → Prop
  | [] => True
  | [_] => True
  | a :: b :: r => a.1 < b.1 ∧ rising (b :: r)
/-- A part's end: known tags, then '.tags'. -/
def isChain : Sch → Bool
  | .ktag _ _ _ rest => isChain rest
  | .tags _ => true
  | _ => false
/-- The known tags of a part's end: their defaults, their kinds. -/
def chainL : Sch → List (Int × Sch)
  | .ktag _ d f rest => (d, f) :: chainL rest
  | _ => []
/-- The unknown tags of a part's end. -/
def kus : Sch → GV → List (Nat × List UInt8)
  | .ktag _ _ _ rest, .cons _ vs => kus rest vs
  | .tags _, .tags l => l
  | _, _ => []
/-- The kinds of known tags' fields that are dealt with; their defaults. -/
def knd : Sch → Int → Bool
  | .leaf .i16, d => decide (-32768 ≤ d) && decide (d ≤ 32767)
  | .leaf .i64, d => decide (-9223372036854775808 ≤ d) && decide (d ≤ 9223372036854775807)
  | .leaf .uuid, _ => true
  | .leaf .nstr, _ => true
  | .list none _ _, _ => true
  | _, _ => false
/-- What can be said of a part, and told. -/
def WF (ver : Int) (flex : Bool) : Sch → GV → Prop
  | .leaf k, v => wfLeaf ver flex k v
  | .list _ _ e, .list l => l.length ≤ 2147483647 ∧ ∀ v ∈ l, WF ver flex e v
  | .list nul _ _, .null => nullAt nul ver = true
  | .opt _, .null => True
  | .opt e, v => WF ver flex e v
  | .done, .unit => True
  | .tags _, .tags l => rising l ∧ l.length ≤ 4294967295 ∧ (∀ t ∈ l, t.1 ≤ 4294967295 ∧ t.2.length ≤ 4294967295) ∧ (flex = false → l = [])
  | .cons _ lo hi f rest, .cons v vs => (hasV lo hi ver = true → WF ver flex f v) ∧ WF ver flex rest vs
  | .ktag _ d f rest, .cons v vs => WF ver flex f v ∧ (ap ver flex f v).length ≤ 4294967295 ∧ WF ver flex rest vs ∧ (∀ t ∈ kus rest vs, (chainL rest).length + 1 ≤ t.1) ∧ ((if usual f d v then [] else [(0, ap ver flex f v)]) ++ kt ver flex rest 1 vs).length ≤ 4294967295
  | _, _ => False
/-- Each thing of a part has an octet at least. -/
def posS (ver : Int) (flex : Bool) : Sch → Bool
  | .leaf _ => true
  | .list _ _ _ => true
  | .opt _ => true
  | .done => false
  | .tags _ => flex
  | .cons _ lo hi f rest => (hasV lo hi ver && posS ver flex f) || posS ver flex rest
  | .ktag _ _ _ _ => flex
/-- The things of all lists have an octet at least; a part that may be null is a part. -/
def okS (ver : Int) (flex : Bool) : Sch → Bool
  | .leaf _ => true
  | .list _ _ e => posS ver flex e && okS ver flex e
  | .opt e => (match e with | .cons .. => true | .tags _ => true | _ => false) && okS ver flex e
  | .done => true
  | .tags _ => true
  | .cons _ lo hi f rest => (!hasV lo hi ver || okS ver flex f) && okS ver flex rest
  | .ktag _ d f rest => knd f d && okS ver flex f && okS ver flex rest && (isChain rest && decide ((chainL rest).length < 1000))
theorem ap_pos {ver : Int} {flex : Bool} : ∀ (s : Sch) (v : GV), posS ver flex s = true → WF ver flex s v → 1 ≤ (ap ver flex s v).length
  | .leaf k, v, _, h => leaf_pos h
  | .list nul z e, v, _, h => by
    have h3 := lenB_pos flex
    have h4 := nulB_pos flex
    cases v <;> simp only [WF] at h <;> try exact h.elim
    · simp only [ap]; omega
    · rename_i l
      have := h3 l.length
      simp only [ap, List.length_append]
      omega
  | .opt e, v, _, h => by
    cases v <;> simp [ap]
  | .done, _, h, _ => by cases h
  | .tags _, v, h, k => by
    cases v <;> simp only [WF] at k <;> try exact k.elim
    rename_i l
    have := uv_pos l.length
    simp only [posS] at h
    subst h
    simp only [ap, if_true, List.length_append]
    omega
  | .cons _ lo hi f rest, v, h, k => by
    cases v <;> simp only [WF] at k <;> try exact k.elim
    rename_i v vs
    simp only [posS, Bool.or_eq_true, Bool.and_eq_true] at h
    simp only [ap, List.length_append]
    rcases h with ⟨h1, h2⟩ | h
    · have := ap_pos f v h2 (k.1 h1)
      rw [if_pos h1]
      omega
    · have := ap_pos rest vs h k.2
      omega
  | .ktag _ d f rest, v, h, k => by
    cases v <;> simp only [WF] at k <;> try exact k.elim
    rename_i x vs
    simp only [posS] at h
    subst h
    have := uv_pos ((if usual f d x = true then [] else [(0, ap ver true f x)]) ++ kt ver true rest 1 vs).length
    simp only [ap, if_true, kOut, List.length_append] at this ⊢
    omega
theorem Exact.count {flex : Bool} {n : Nat} (h : n ≤ 2147483647) : Exact (Proofs.YtmpilpgabelmiaaGreatDoor.lenB flex n) (rdCount flex) (n : Int) := by
  unfold rdCount Proofs.YtmpilpgabelmiaaGreatDoor.lenB
  cases flex
  · simp only [Bool.false_eq_true, if_false]
    exact Exact.int4 (by omega) (by omega)
  · simp only [if_true]
    have h := Exact.bind_pure (f := fun n : Nat => sg 2147483648 (sg 2147483648 n - 1)) (Exact.uv (n := n + 1) (by omega))
    have e : sg 2147483648 (sg 2147483648 ((n + 1 : Nat) : Int) - 1) = n := by unfold sg; omega
    rwa [e] at h
theorem Exact.countNul {flex : Bool} : Exact (Proofs.YtmpilpgabelmiaaGreatDoor.nulB flex) (rdCount flex) (-1) := by
  unfold rdCount Proofs.YtmpilpgabelmiaaGreatDoor.nulB
  cases flex
  · simp only [Bool.false_eq_true, if_false]
    exact Exact.int4 (by omega) (by omega)
  · simp only [if_true]
    have h := Exact.bind_pure (f := fun n : Nat => sg 2147483648 (sg 2147483648 n - 1)) (Exact.uv (n := 0) (by omega))
    have e : sg 2147483648 (sg 2147483648 ((0 : Nat) : Int) - 1) = -1 := by unfold sg; omega
    rwa [e] at h
theorem exact_list {α : Type} {flex : Bool} {n : Nat} (hn : n ≤ 2147483647) {s : List UInt8} (hs : n ≤ s.length) {f : Int → Pr α} {u : α} (k : Exact s (f n) u) : Exact (Proofs.YtmpilpgabelmiaaGreatDoor.lenB flex n ++ s) ((rdLen flex).bind f) u := by
  intro x
  have h : rdLen flex (Proofs.YtmpilpgabelmiaaGreatDoor.lenB flex n ++ (s ++ x)) = some ((n : Int), s ++ x) := by
    unfold rdLen
    rw [bind_eq (Exact.count hn _)]
    rw [if_neg (by simp; omega)]
  rw [List.append_assoc, bind_eq h]
  exact k x
theorem exact_listNul {α : Type} {flex : Bool} {f : Int → Pr α} {u : α} (k : Exact [] (f (-1)) u) : Exact (Proofs.YtmpilpgabelmiaaGreatDoor.nulB flex) ((rdLen flex).bind f) u := by
  intro x
  have h : rdLen flex (Proofs.YtmpilpgabelmiaaGreatDoor.nulB flex ++ x) = some (-1, x) := by
    unfold rdLen
    rw [bind_eq (Exact.countNul _)]
    rw [if_neg (by omega)]
  rw [bind_eq h]
  exact k x
theorem exact_tag {t : Nat × List UInt8} (h : t.1 ≤ 4294967295 ∧ t.2.length ≤ 4294967295) : Exact (Proofs.YtmpilpgabelmiaaGreatDoor.uv t.1 ++ Proofs.YtmpilpgabelmiaaGreatDoor.uv t.2.length ++ t.2) rdTag1 t := by
  rw [List.append_assoc]
  refine Exact.bind (Exact.uv h.1) ?_
  refine Exact.bind (Exact.uv (by omega)) ?_
  exact Exact.bind_pure (f := fun v => (t.1, v)) (Exact.take t.2)
theorem exact_many_tags : ∀ (l : List (Nat × List UInt8)), (∀ t ∈ l, t.1 ≤ 4294967295 ∧ t.2.length ≤ 4294967295) → Exact (apTags l) (rdMany rdTag1 l.length) l
  | [], _ => Exact.pure []
  | t :: l, h => by
    have h1 := exact_tag (h t (List.mem_cons_self ..))
    have h2 := exact_many_tags l (fun t ht => h t (List.mem_cons_of_mem _ ht))
    have := Exact.bind (f := fun v => (rdMany rdTag1 l.length).bind fun l => Pr.pure (v :: l)) h1 (Exact.bind_pure (f := fun l => t :: l) h2)
    exact this.of_eq (by simp [apTags])
theorem tagIns_last : ∀ (l : List (Nat × List UInt8)) (t : Nat × List UInt8), (∀ u ∈ l, u.1 < t.1) → tagIns t.1 t.2 l = l ++ [t]
  | [], t, _ => rfl
  | a :: l, t, h => by
    have ha := h a (List.mem_cons_self ..)
    obtain ⟨j, u⟩ := a
    simp only [tagIns]
    rw [if_neg (by simp at ha; omega), if_neg (by simp at ha; omega), tagIns_last l t (fun u hu => h u (List.mem_cons_of_mem _ hu))]
    rfl
theorem rising_tail {a : Nat × List UInt8} {l : List (Nat × List UInt8)} (h : rising (a :: l)) : rising l ∧ ∀ u ∈ l, a.1 < u.1 := by
  induction l generalizing a with
  | nil => exact ⟨trivial, fun u hu => by cases hu⟩
  | cons b r ih =>
    obtain ⟨h1, h2⟩ := h
    refine ⟨h2, fun u hu => ?_⟩
    rcases List.mem_cons.1 hu with rfl | hu
    · exact h1
    · have := (ih h2).2 u hu
      omega
theorem foldl_ins : ∀ (l acc : List (Nat × List UInt8)), rising l → (∀ a ∈ acc, ∀ u ∈ l, a.1 < u.1) → l.foldl (fun acc t => tagIns t.1 t.2 acc) acc = acc ++ l
  | [], acc, _, _ => by simp
  | t :: l, acc, h, k => by
    simp only [List.foldl_cons]
    rw [tagIns_last acc t (fun u hu => k u hu t (List.mem_cons_self ..)), foldl_ins l _ (rising_tail h).1 ?_]
    · simp
    · intro a ha u hu
      rcases List.mem_append.1 ha with ha | ha
      · exact k a ha u (List.mem_cons_of_mem _ hu)
      · rw [List.mem_singleton.1 ha]
        exact (rising_tail h).2 u hu
theorem tagSort_rising {l : List (Nat × List UInt8)} (h : rising l) : tagSort l = l := by
  unfold tagSort
  rw [foldl_ins l [] h (fun a ha => by cases ha)]
  rfl
theorem exact_tags {flex : Bool} {l : List (Nat × List UInt8)} (h : rising l) (hl : l.length ≤ 4294967295) (hb : ∀ t ∈ l, t.1 ≤ 4294967295 ∧ t.2.length ≤ 4294967295) (hf : flex = false → l = []) :
    Exact (if flex then Proofs.YtmpilpgabelmiaaGreatDoor.uv l.length ++ apTags l else []) (rdTags flex) (.tags l) := by
  cases flex
  · rw [hf rfl]
    exact Exact.pure _
  · simp only [if_true, rdTags]
    have := Exact.bind_pure (f := fun l => GV.tags (tagSort l)) (Exact.bind (f := fun n => rdMany rdTag1 n) (Exact.uv (n := l.length) (by omega)) (exact_many_tags l hb))
    rw [tagSort_rising h] at this
    exact this
theorem exact_many {ver : Int} {flex : Bool} {e : Sch} (l : List GV) (h : ∀ v ∈ l, ∃ v', WF ver flex e v' ∧ ap ver flex e v' = ap ver flex e v ∧ Exact (ap ver flex e v) (rd ver flex e) v') :
    ∃ l', l'.length = l.length ∧ (∀ v ∈ l', WF ver flex e v) ∧ l'.flatMap (ap ver flex e) = l.flatMap (ap ver flex e) ∧ Exact (l.flatMap (ap ver flex e)) (rdMany (rd ver flex e) l.length) l' := by
  induction l with
  | nil => exact ⟨[], rfl, (fun v hv => nomatch hv), rfl, Exact.pure []⟩
  | cons v l ih =>
    obtain ⟨v', w1, e1, x1⟩ := h v (List.mem_cons_self ..)
    obtain ⟨l', n2, w2, e2, x2⟩ := ih fun v hv => h v (List.mem_cons_of_mem _ hv)
    refine ⟨v' :: l', by simp [n2], ?_, by simp [e1, e2], ?_⟩
    · intro u hu
      rcases List.mem_cons.1 hu with rfl | hu
      · exact w1
      · exact w2 u hu
    · have := Exact.bind (f := fun v => (rdMany (rd ver flex e) l.length).bind fun l => Pr.pure (v :: l)) x1 (Exact.bind_pure (f := fun l => v' :: l) x2)
      exact this
theorem sum_pos {ver : Int} {flex : Bool} {e : Sch} (hp : posS ver flex e = true) : ∀ (l : List GV), (∀ v ∈ l, WF ver flex e v) → l.length ≤ (l.flatMap (ap ver flex e)).length
  | [], _ => by simp
  | v :: l, h => by
    have h1 := ap_pos e v hp (h v (List.mem_cons_self ..))
    have h2 := sum_pos hp l (fun v hv => h v (List.mem_cons_of_mem _ hv))
    simp only [List.flatMap_cons, List.length_append, List.length_cons]
    omega
/-! A part's end with known tags, as lists. -/
def ktL (ver : Int) (flex : Bool) : List (Int × Sch) → Nat → List GV → List (Nat × List UInt8)
  | c :: cs, i, v :: vs => (if usual c.2 c.1 v then [] else [(i, ap ver flex c.2 v)]) ++ ktL ver flex cs (i + 1) vs
  | _, _, _ => []
/-- Each known tag's value can be told. -/
def WFL (ver : Int) (flex : Bool) : List (Int × Sch) → List GV → Prop
  | c :: cs, v :: vs => WF ver flex c.2 v ∧ (ap ver flex c.2 v).length ≤ 4294967295 ∧ WFL ver flex cs vs
  | [], [] => True
  | _, _ => False
def WFU (flex : Bool) (l : List (Nat × List UInt8)) : Prop := rising l ∧ l.length ≤ 4294967295 ∧ (∀ t ∈ l, t.1 ≤ 4294967295 ∧ t.2.length ≤ 4294967295) ∧ (flex = false → l = [])
theorem kp_chain (ver : Int) (flex : Bool) : ∀ s : Sch, kp ver flex s = (chainL s).map fun c => (dfl c.2 c.1, rd ver flex c.2)
  | .ktag _ d f rest => by
    unfold kp chainL
    rw [kp_chain ver flex rest]
    rfl
  | .leaf _ => rfl
  | .list _ _ _ => rfl
  | .opt _ => rfl
  | .done => rfl
  | .tags _ => rfl
  | .cons _ _ _ _ _ => rfl
theorem WFL.length {ver : Int} {flex : Bool} : ∀ {cs : List (Int × Sch)} {vs : List GV}, WFL ver flex cs vs → vs.length = cs.length
  | [], [], _ => rfl
  | c :: cs, v :: vs, h => by simp only [List.length_cons, WFL.length h.2.2]
  | [], _ :: _, h => h.elim
  | _ :: _, [], h => h.elim
theorem kt_kval {ver : Int} {flex : Bool} : ∀ {s : Sch} {i : Nat} {vs : List GV} {us : List (Nat × List UInt8)}, isChain s = true → vs.length = (chainL s).length → kt ver flex s i (kval vs us) = ktL ver flex (chainL s) i vs ++ us
  | .ktag _ d f rest, i, vs, us, hc, hl => by
    cases vs with
    | nil => simp [chainL] at hl
    | cons v vs =>
      simp only [chainL, List.length_cons, Nat.add_right_cancel_iff] at hl
      simp only [kval, kt, chainL, ktL, List.append_assoc]
      rw [kt_kval (s := rest) hc hl]
  | .tags _, i, vs, us, hc, hl => by
    have : vs = [] := List.eq_nil_of_length_eq_zero hl
    subst this
    rfl
theorem kus_kval : ∀ {s : Sch} {vs : List GV} {us : List (Nat × List UInt8)}, isChain s = true → vs.length = (chainL s).length → kus s (kval vs us) = us
  | .ktag _ d f rest, vs, us, hc, hl => by
    cases vs with
    | nil => simp [chainL] at hl
    | cons v vs =>
      simp only [chainL, List.length_cons, Nat.add_right_cancel_iff] at hl
      simp only [kval, kus]
      exact kus_kval (s := rest) hc hl
  | .tags _, vs, us, hc, hl => by
    have : vs = [] := List.eq_nil_of_length_eq_zero hl
    subst this
    rfl
theorem ktL_length {ver : Int} {flex : Bool} : ∀ {cs : List (Int × Sch)} {vs : List GV} (i j : Nat), (ktL ver flex cs i vs).length = (ktL ver flex cs j vs).length
  | [], _, _, _ => rfl
  | _ :: _, [], _, _ => rfl
  | c :: cs, v :: vs, i, j => by
    simp only [ktL, List.length_append]
    rw [ktL_length (cs := cs) (vs := vs) (i + 1) (j + 1)]
    split <;> rfl
theorem wf_kval {ver : Int} {flex : Bool} : ∀ {s : Sch} {vs : List GV} {us : List (Nat × List UInt8)}, isChain s = true → WFL ver flex (chainL s) vs → WFU flex us → (∀ t ∈ us, (chainL s).length ≤ t.1) → (ktL ver flex (chainL s) 0 vs).length + us.length ≤ 4294967295 → WF ver flex s (kval vs us)
  | .ktag _ d f rest, vs, us, hc, hw, hu, hk, hn => by
    cases vs with
    | nil => exact hw.elim
    | cons v vs =>
      simp only [chainL, List.length_cons] at hk hn
      have hl := WFL.length hw.2.2
      simp only [kval, WF]
      rw [kus_kval (s := rest) hc hl, kt_kval (s := rest) hc hl]
      simp only [ktL, List.length_append] at hn ⊢
      have e := ktL_length (ver := ver) (flex := flex) (cs := chainL rest) (vs := vs) 0 1
      have e2 := ktL_length (ver := ver) (flex := flex) (cs := chainL rest) (vs := vs) 0 (0 + 1)
      exact ⟨hw.1, hw.2.1, wf_kval (s := rest) hc hw.2.2 hu (fun t ht => Nat.le_of_succ_le (hk t ht)) (by omega), hk, by omega⟩
  | .tags _, vs, us, hc, hw, hu, hk, hn => by
    have : vs = [] := List.eq_nil_of_length_eq_zero (WFL.length hw)
    subst this
    exact hu
theorem kval_of {ver : Int} {flex : Bool} : ∀ {s : Sch} {v : GV}, isChain s = true → WF ver flex s v → ∃ vs us, v = kval vs us ∧ WFL ver flex (chainL s) vs ∧ WFU flex us ∧ (∀ t ∈ us, (chainL s).length ≤ t.1) ∧ (ktL ver flex (chainL s) 0 vs).length + us.length ≤ 4294967295
  | .ktag _ d f rest, v, hc, hw => by
    cases v <;> simp only [WF] at hw <;> try exact hw.elim
    rename_i x y
    obtain ⟨h1, h2, h3, h4, h5⟩ := hw
    obtain ⟨vs, us, rfl, k1, k2, k3, k4⟩ := kval_of (s := rest) hc h3
    rw [kus_kval (s := rest) hc (WFL.length k1)] at h4
    rw [kt_kval (s := rest) hc (WFL.length k1)] at h5
    refine ⟨x :: vs, us, rfl, ⟨h1, h2, k1⟩, k2, h4, ?_⟩
    simp only [chainL, ktL, List.length_append] at h5 ⊢
    have e2 := ktL_length (ver := ver) (flex := flex) (cs := chainL rest) (vs := vs) 1 (0 + 1)
    have e3 : (if usual f d x = true then [] else [(0, ap ver flex f x)]).length = (if usual (d, f).2 (d, f).1 x = true then [] else [(0, ap ver flex (d, f).2 x)]).length := rfl
    omega
  | .tags _, v, hc, hw => by
    cases v <;> simp only [WF] at hw <;> try exact hw.elim
    rename_i l
    exact ⟨[], l, rfl, trivial, hw, (fun t _ => Nat.zero_le _), by simp only [chainL, ktL, List.length_nil]; omega⟩
theorem kfold_app (ks : List (GV × Pr GV)) : ∀ (l l' : List (Nat × List UInt8)) (s : List GV × List (Nat × List UInt8)), kfold ks (l ++ l') s = (kfold ks l s).bind (kfold ks l')
  | [], l', s => rfl
  | t :: l, l', s => by
    simp only [List.cons_append, kfold]
    cases kstep ks s t with
    | none => rfl
    | some q => exact kfold_app ks l l' q
theorem kfold_unknown (ks : List (GV × Pr GV)) (vs : List GV) : ∀ (l us : List (Nat × List UInt8)), (∀ t ∈ l, ks.length ≤ t.1) → kfold ks l (vs, us) = some (vs, l.foldl (fun acc t => tagIns t.1 t.2 acc) us)
  | [], us, _ => rfl
  | t :: l, us, h => by
    have h1 : ks[t.1]? = none := List.getElem?_eq_none (h t (List.mem_cons_self ..))
    simp only [kfold, kstep, h1, Option.bind_some, List.foldl_cons]
    exact kfold_unknown ks vs l _ fun t ht => h t (List.mem_cons_of_mem _ ht)
theorem dfl_usual {f : Sch} {d : Int} (h : knd f d = true) : usual f d (dfl f d) = true := by
  cases f with
  | leaf k => cases k <;> simp [knd] at h <;> simp [usual, dfl]
  | list nul z e => rfl
  | _ => simp [knd] at h
theorem lenB_small (flex : Bool) : (Proofs.YtmpilpgabelmiaaGreatDoor.lenB flex 0).length ≤ 10 := by
  unfold Proofs.YtmpilpgabelmiaaGreatDoor.lenB
  split
  · exact uv_length _
  · simp [be32]
theorem nulS_small (flex : Bool) : (Proofs.YtmpilpgabelmiaaGreatDoor.nulS flex).length ≤ 10 := by
  unfold Proofs.YtmpilpgabelmiaaGreatDoor.nulS
  split
  · exact uv_length _
  · simp [be16]
theorem dfl_wf {ver : Int} {flex : Bool} {f : Sch} {d : Int} (h : knd f d = true) : WF ver flex f (dfl f d) ∧ (ap ver flex f (dfl f d)).length ≤ 4294967295 := by
  have h1 := lenB_small flex
  have h2 := nulS_small flex
  cases f with
  | leaf k =>
    cases k <;> simp [knd] at h <;> simp only [dfl, WF, wfLeaf, ap, apLeaf, List.length_replicate]
    · exact ⟨h, by simp [be16]⟩
    · exact ⟨⟨h.1, by omega⟩, by simp [be64]⟩
    · exact ⟨by simp, by simp⟩
    · exact ⟨trivial, by omega⟩
  | list nul z e =>
    simp only [dfl, WF, ap, List.length_nil, List.flatMap_nil, List.append_nil]
    exact ⟨⟨by omega, (fun v hv => nomatch hv)⟩, by omega⟩
  | _ => simp [knd] at h
theorem dfl_wfl {ver : Int} {flex : Bool} : ∀ {s : Sch}, okS ver flex s = true → WFL ver flex (chainL s) ((chainL s).map fun c => dfl c.2 c.1)
  | .ktag _ d f rest, h => by
    simp only [okS, Bool.and_eq_true] at h
    obtain ⟨h1, h2⟩ := dfl_wf (ver := ver) (flex := flex) h.1.1.1
    exact ⟨h1, h2, dfl_wfl h.1.2⟩
  | .leaf _, _ => trivial
  | .list _ _ _, _ => trivial
  | .opt _, _ => trivial
  | .done, _ => trivial
  | .tags _, _ => trivial
  | .cons _ _ _ _ _, _ => trivial
/-- What is written tells whether it is as by default. -/
theorem usual_ap {ver : Int} {flex : Bool} {f : Sch} {d : Int} {v v' : GV} (h : knd f d = true) (hw : WF ver flex f v) (hw' : WF ver flex f v') (e : ap ver flex f v' = ap ver flex f v) : usual f d v' = usual f d v := by
  cases f with
  | leaf k =>
    have h1 := exact_leaf (ver := ver) (flex := flex) (k := k) (v := v) hw []
    have h2 := exact_leaf (ver := ver) (flex := flex) (k := k) (v := v') hw' []
    have e' : apLeaf ver flex k v' = apLeaf ver flex k v := by simpa only [ap] using e
    rw [e', h1] at h2
    cases h2
    rfl
  | list nul z e0 =>
    cases nul with
    | some m => simp [knd] at h
    | none =>
      cases v <;> simp only [WF] at hw <;> try exact hw.elim
      · cases hw
      cases v' <;> simp only [WF] at hw' <;> try exact hw'.elim
      · cases hw'
      rename_i l l'
      have h1 := Exact.count (flex := flex) hw.1 (l.flatMap (ap ver flex e0))
      have h2 := Exact.count (flex := flex) hw'.1 (l'.flatMap (ap ver flex e0))
      simp only [ap] at e
      rw [e, h1] at h2
      simp only [Option.some.injEq, Prod.mk.injEq] at h2
      have h3 : l.length = l'.length := by omega
      simp only [usual]
      cases l <;> cases l' <;> simp_all
  | _ => simp [knd] at h
theorem ktL_dfl {ver : Int} {flex : Bool} : ∀ (cs : List (Int × Sch)) (i : Nat), (∀ c ∈ cs, knd c.2 c.1 = true) → ktL ver flex cs i (cs.map fun c => dfl c.2 c.1) = []
  | [], _, _ => rfl
  | c :: cs, i, h => by
    simp only [List.map_cons, ktL, dfl_usual (h c (List.mem_cons_self ..)), if_true, List.nil_append]
    exact ktL_dfl cs (i + 1) fun c hc => h c (List.mem_cons_of_mem _ hc)
theorem ktL_bounds {ver : Int} {flex : Bool} : ∀ {cs : List (Int × Sch)} {i : Nat} {vs : List GV}, WFL ver flex cs vs → i + cs.length ≤ 4294967296 → (∀ t ∈ ktL ver flex cs i vs, t.1 ≤ 4294967295 ∧ t.2.length ≤ 4294967295) ∧ (ktL ver flex cs i vs).length ≤ cs.length
  | [], _, _, _, _ => ⟨(fun t ht => nomatch ht), Nat.le_refl _⟩
  | _ :: _, _, [], h, _ => h.elim
  | c :: cs, i, v :: vs, h, hi => by
    simp only [List.length_cons] at hi
    obtain ⟨h1, h2⟩ := ktL_bounds (i := i + 1) h.2.2 (by omega)
    simp only [ktL, List.length_append, List.length_cons]
    refine ⟨fun t ht => ?_, ?_⟩
    · rcases List.mem_append.1 ht with ht | ht
      · split at ht
        · cases ht
        · rw [List.mem_singleton.1 ht]
          exact ⟨by simp only; omega, h.2.1⟩
      · exact h1 t ht
    · split <;> simp <;> omega
/-- The known tags that are written are read again. -/
theorem kfold_known {ver : Int} : ∀ (cs : List (Int × Sch)) (i : Nat) (pre : List GV) (K0 : List (GV × Pr GV)) (vs : List GV), pre.length = i → K0.length = i → WFL ver true cs vs → (∀ c ∈ cs, knd c.2 c.1 = true) → (∀ c ∈ cs, ∀ v, WF ver true c.2 v → ∃ v', WF ver true c.2 v' ∧ ap ver true c.2 v' = ap ver true c.2 v ∧ Exact (ap ver true c.2 v) (rd ver true c.2) v') →
    ∃ vs', WFL ver true cs vs' ∧ ktL ver true cs i vs' = ktL ver true cs i vs ∧ ∀ us, kfold (K0 ++ cs.map fun c => (dfl c.2 c.1, rd ver true c.2)) (ktL ver true cs i vs) (pre ++ cs.map (fun c => dfl c.2 c.1), us) = some (pre ++ vs', us)
  | [], i, pre, K0, vs, hp, hK, hw, _, _ => ⟨[], trivial, by cases vs <;> rfl, fun us => by cases vs <;> rfl⟩
  | c :: cs, i, pre, K0, [], hp, hK, hw, _, _ => hw.elim
  | c :: cs, i, pre, K0, v :: vs, hp, hK, hw, hd, hx => by
    have hd0 := hd c (List.mem_cons_self ..)
    obtain ⟨dw1, dw2⟩ := dfl_wf (ver := ver) (flex := true) hd0
    have eK : K0 ++ (c :: cs).map (fun c => (dfl c.2 c.1, rd ver true c.2)) = (K0 ++ [(dfl c.2 c.1, rd ver true c.2)]) ++ cs.map fun c => (dfl c.2 c.1, rd ver true c.2) := by simp
    cases hu : usual c.2 c.1 v
    · obtain ⟨v', w1, e1, x1⟩ := hx c (List.mem_cons_self ..) v hw.1
      have hu' : usual c.2 c.1 v' = false := by rw [usual_ap hd0 hw.1 w1 e1, hu]
      obtain ⟨vs', k1, k2, k3⟩ := kfold_known cs (i + 1) (pre ++ [v']) (K0 ++ [(dfl c.2 c.1, rd ver true c.2)]) vs (by simp [hp]) (by simp [hK]) hw.2.2 (fun c h => hd c (List.mem_cons_of_mem _ h)) (fun c h => hx c (List.mem_cons_of_mem _ h))
      refine ⟨v' :: vs', ⟨w1, by rw [e1]; exact hw.2.1, k1⟩, ?_, fun us => ?_⟩
      · simp only [ktL, hu, hu', e1, k2]
      · simp only [ktL, hu, Bool.false_eq_true, if_false, List.cons_append, List.nil_append, kfold]
        have hk : (K0 ++ (c :: cs).map (fun c => (dfl c.2 c.1, rd ver true c.2)))[i]? = some (dfl c.2 c.1, rd ver true c.2) := by
          rw [List.getElem?_append_right (by omega), hK, Nat.sub_self]
          rfl
        have hr : rd ver true c.2 (ap ver true c.2 v) = some (v', []) := by
          have := x1 []
          rwa [List.append_nil] at this
        have hs : (pre ++ (c :: cs).map (fun c => dfl c.2 c.1)).set i v' = (pre ++ [v']) ++ cs.map fun c => dfl c.2 c.1 := by
          rw [List.set_append_right _ _ (by omega), hp, Nat.sub_self]
          simp
        simp only [kstep, hk, hr, Option.map_some, Option.bind_some, hs]
        rw [eK, k3 us]
        simp
    · obtain ⟨vs', k1, k2, k3⟩ := kfold_known cs (i + 1) (pre ++ [dfl c.2 c.1]) (K0 ++ [(dfl c.2 c.1, rd ver true c.2)]) vs (by simp [hp]) (by simp [hK]) hw.2.2 (fun c h => hd c (List.mem_cons_of_mem _ h)) (fun c h => hx c (List.mem_cons_of_mem _ h))
      refine ⟨dfl c.2 c.1 :: vs', ⟨dw1, dw2, k1⟩, ?_, fun us => ?_⟩
      · simp only [ktL, hu, dfl_usual hd0, k2, if_true]
      · simp only [ktL, hu, if_true, List.nil_append]
        have := k3 us
        rw [eK]
        simpa using this
/-- A part's end is read again, and written as the same. -/
theorem chain_ap {ver : Int} {flex : Bool} {off : Nat} {d : Int} {f rest : Sch} (hok : okS ver flex (.ktag off d f rest) = true) {v : GV} (hw : WF ver flex (.ktag off d f rest) v)
    (hk : ∀ c ∈ chainL (.ktag off d f rest), knd c.2 c.1 = true) (hx : ∀ c ∈ chainL (.ktag off d f rest), ∀ v, WF ver flex c.2 v → ∃ v', WF ver flex c.2 v' ∧ ap ver flex c.2 v' = ap ver flex c.2 v ∧ Exact (ap ver flex c.2 v) (rd ver flex c.2) v') :
    ∃ v', WF ver flex (.ktag off d f rest) v' ∧ ap ver flex (.ktag off d f rest) v' = ap ver flex (.ktag off d f rest) v ∧ Exact (ap ver flex (.ktag off d f rest) v) (rd ver flex (.ktag off d f rest)) v' := by
  have hc2 : isChain rest = true ∧ (chainL rest).length < 1000 := by
    simp only [okS, Bool.and_eq_true, decide_eq_true_eq] at hok
    exact hok.2
  have hc : isChain (.ktag off d f rest) = true := hc2.1
  have hcl : (chainL (.ktag off d f rest)).length ≤ 1000 := by
    simp only [chainL, List.length_cons]
    omega
  obtain ⟨vs, us, rfl, h1, h2, h3, h4⟩ := kval_of hc hw
  have hkp : (dfl f d, rd ver flex f) :: kp ver flex rest = (chainL (.ktag off d f rest)).map fun c => (dfl c.2 c.1, rd ver flex c.2) := kp_chain ver flex (.ktag off d f rest)
  have hmap : ((chainL (.ktag off d f rest)).map fun c => (dfl c.2 c.1, rd ver flex c.2)).map (·.1) = (chainL (.ktag off d f rest)).map fun c => dfl c.2 c.1 := by
    rw [List.map_map]
    rfl
  have apk : ∀ vs us, WFL ver flex (chainL (.ktag off d f rest)) vs → ap ver flex (.ktag off d f rest) (kval vs us) = if flex then kOut (ktL ver flex (chainL (.ktag off d f rest)) 0 vs ++ us) else [] := by
    intro vs us hw
    rw [← kt_kval hc (WFL.length hw)]
    cases vs with
    | nil => exact hw.elim
    | cons x vs => rfl
  rw [apk vs us h1]
  unfold rd
  rw [hkp]
  cases flex
  · refine ⟨kval ((chainL (.ktag off d f rest)).map fun c => dfl c.2 c.1) [], wf_kval hc (dfl_wfl hok) ⟨trivial, by simp, (fun t ht => nomatch ht), fun _ => rfl⟩ (fun t ht => nomatch ht) (by rw [ktL_dfl _ _ hk]; simp), ?_, ?_⟩
    · rw [apk _ _ (dfl_wfl hok)]
      rfl
    · unfold rdKn
      rw [hmap]
      exact Exact.pure _
  · obtain ⟨vs', k1, k2, k3⟩ := kfold_known (chainL (.ktag off d f rest)) 0 [] [] vs rfl rfl h1 hk hx
    refine ⟨kval vs' us, wf_kval hc k1 h2 h3 (by rw [k2]; exact h4), ?_, ?_⟩
    · rw [apk vs' us k1, k2]
    · obtain ⟨b1, b2⟩ := ktL_bounds (i := 0) h1 (by omega)
      have hL : ∀ t ∈ ktL ver true (chainL (.ktag off d f rest)) 0 vs ++ us, t.1 ≤ 4294967295 ∧ t.2.length ≤ 4294967295 := by
        intro t ht
        rcases List.mem_append.1 ht with ht | ht
        · exact b1 t ht
        · exact h2.2.2.1 t ht
      have hraw : Exact (kOut (ktL ver true (chainL (.ktag off d f rest)) 0 vs ++ us)) rdTagsRaw (ktL ver true (chainL (.ktag off d f rest)) 0 vs ++ us) :=
        Exact.bind (f := fun n => rdMany rdTag1 n) (Exact.uv (n := (ktL ver true (chainL (.ktag off d f rest)) 0 vs ++ us).length) (by simp only [List.length_append]; exact h4)) (exact_many_tags _ hL)
      have k4 := k3 []
      simp only [List.nil_append] at k4
      have e2 : kfold ((chainL (.ktag off d f rest)).map fun c => (dfl c.2 c.1, rd ver true c.2)) (ktL ver true (chainL (.ktag off d f rest)) 0 vs ++ us) ((chainL (.ktag off d f rest)).map (fun c => dfl c.2 c.1), []) = some (vs', us) := by
        rw [kfold_app, k4, Option.bind_some, kfold_unknown _ _ _ _ (by simpa using h3), show us.foldl (fun acc t => tagIns t.1 t.2 acc) [] = us from tagSort_rising h2.1]
      intro x
      show rdKn true _ (kOut (ktL ver true (chainL (.ktag off d f rest)) 0 vs ++ us) ++ x) = _
      unfold rdKn
      rw [if_pos rfl, bind_eq (hraw x), hmap, e2]
      rfl
mutual
/-- What is written is read again, and written as the same. -/
theorem rd_ap (ver : Int) (flex : Bool) : ∀ (s : Sch) (v : GV), okS ver flex s = true → WF ver flex s v → ∃ v', WF ver flex s v' ∧ ap ver flex s v' = ap ver flex s v ∧ Exact (ap ver flex s v) (rd ver flex s) v'
  | .leaf k, v, _, h => ⟨v, h, rfl, exact_leaf h⟩
  | .list nul z e, v, hk, h => by
    simp only [okS, Bool.and_eq_true] at hk
    cases v <;> simp only [WF] at h <;> try exact h.elim
    · refine ⟨.null, h, rfl, ?_⟩
      unfold rd
      simp only [ap]
      refine exact_listNul ?_
      rw [if_pos ⟨by omega, h⟩]
      exact Exact.pure _
    · rename_i l
      obtain ⟨l', n2, w2, e2, x2⟩ := exact_many l (fun v hv => rd_ap ver flex e v hk.2 (h.2 v hv))
      refine ⟨.list l', ⟨by omega, w2⟩, by simp only [ap]; rw [n2, e2], ?_⟩
      unfold rd
      simp only [ap]
      refine exact_list h.1 (sum_pos hk.1 l h.2) ?_
      rw [if_neg (by omega)]
      exact Exact.bind_pure (f := GV.list) (by rwa [Int.toNat_natCast])
  | .opt e, v, hk, h => by
    simp only [okS, Bool.and_eq_true] at hk
    by_cases hv : v = .null
    · subst hv
      refine ⟨.null, trivial, rfl, ?_⟩
      unfold rd
      have := Exact.bind (f := fun n : Int => if n = -1 then Pr.pure GV.null else rd ver flex e) (Exact.int1 (n := -1) (by omega) (by omega)) (Exact.pure GV.null)
      exact this
    · have hw : WF ver flex e v := by cases v <;> first | exact absurd rfl hv | exact h
      obtain ⟨v', w1, e1, x1⟩ := rd_ap ver flex e v hk.2 hw
      have hv' : v' ≠ .null := by
        rintro rfl
        cases e <;> simp [WF] at w1 hk
      refine ⟨v', ?_, ?_, ?_⟩
      · cases v' <;> first | exact absurd rfl hv' | exact w1
      · have a1 : ap ver flex (.opt e) v' = 1 :: ap ver flex e v' := by cases v' <;> first | exact absurd rfl hv' | rfl
        have a2 : ap ver flex (.opt e) v = 1 :: ap ver flex e v := by cases v <;> first | exact absurd rfl hv | rfl
        rw [a1, a2, e1]
      · have a2 : ap ver flex (.opt e) v = 1 :: ap ver flex e v := by cases v <;> first | exact absurd rfl hv | rfl
        rw [a2]
        unfold rd
        have := Exact.bind (f := fun n : Int => if n = -1 then Pr.pure GV.null else rd ver flex e) (Exact.int1 (n := 1) (by omega) (by omega)) x1
        exact this
  | .done, v, _, h => by
    cases v <;> simp only [WF] at h <;> try exact h.elim
    exact ⟨.unit, trivial, rfl, Exact.pure _⟩
  | .tags off, v, _, h => by
    cases v <;> simp only [WF] at h <;> try exact h.elim
    rename_i l
    exact ⟨.tags l, h, rfl, exact_tags h.1 h.2.1 h.2.2.1 h.2.2.2⟩
  | .cons off lo hi f rest, v, hk, h => by
    simp only [okS, Bool.and_eq_true, Bool.or_eq_true, Bool.not_eq_true'] at hk
    cases v <;> simp only [WF] at h <;> try exact h.elim
    rename_i v vs
    obtain ⟨vs', w2, e2, x2⟩ := rd_ap ver flex rest vs hk.2 h.2
    by_cases hv : hasV lo hi ver = true
    · obtain ⟨v', w1, e1, x1⟩ := rd_ap ver flex f v (hk.1.resolve_left (by rw [hv]; exact fun h => by cases h)) (h.1 hv)
      refine ⟨.cons v' vs', ⟨fun _ => w1, w2⟩, by simp only [ap, e1, e2], ?_⟩
      unfold rd
      simp only [ap, hv, if_true]
      exact Exact.bind x1 (Exact.bind_pure (f := fun vs => GV.cons v' vs) x2)
    · refine ⟨.cons .unit vs', ⟨fun h => absurd h hv, w2⟩, by simp only [ap, e2, if_neg hv], ?_⟩
      unfold rd
      simp only [ap, if_neg hv, List.nil_append]
      exact Exact.bind_pure (f := fun vs => GV.cons .unit vs) x2
  | .ktag off d f rest, v, hk, h => by
    have hk' := hk
    simp only [okS, Bool.and_eq_true] at hk'
    obtain ⟨c1, c2⟩ := rd_apC ver flex rest hk'.1.2
    refine chain_ap hk h ?_ ?_
    · intro c hc
      rcases List.mem_cons.1 hc with rfl | hc
      · exact hk'.1.1.1
      · exact c1 c hc
    · intro c hc v hv
      rcases List.mem_cons.1 hc with rfl | hc
      · exact rd_ap ver flex f v hk'.1.1.2 hv
      · exact c2 c hc v hv
theorem rd_apC (ver : Int) (flex : Bool) : ∀ (s : Sch), okS ver flex s = true → (∀ c ∈ chainL s, knd c.2 c.1 = true) ∧ ∀ c ∈ chainL s, ∀ v, WF ver flex c.2 v → ∃ v', WF ver flex c.2 v' ∧ ap ver flex c.2 v' = ap ver flex c.2 v ∧ Exact (ap ver flex c.2 v) (rd ver flex c.2) v'
  | .ktag off d f rest, hk => by
    simp only [okS, Bool.and_eq_true] at hk
    obtain ⟨c1, c2⟩ := rd_apC ver flex rest hk.1.2
    refine ⟨fun c hc => ?_, fun c hc v hv => ?_⟩
    · rcases List.mem_cons.1 hc with rfl | hc
      · exact hk.1.1.1
      · exact c1 c hc
    · rcases List.mem_cons.1 hc with rfl | hc
      · exact rd_ap ver flex f v hk.1.1.2 hv
      · exact c2 c hc v hv
  | .leaf _, _ => ⟨(fun c hc => nomatch hc), (fun c hc => nomatch hc)⟩
  | .list _ _ _, _ => ⟨(fun c hc => nomatch hc), (fun c hc => nomatch hc)⟩
  | .opt _, _ => ⟨(fun c hc => nomatch hc), (fun c hc => nomatch hc)⟩
  | .done, _ => ⟨(fun c hc => nomatch hc), (fun c hc => nomatch hc)⟩
  | .tags _, _ => ⟨(fun c hc => nomatch hc), (fun c hc => nomatch hc)⟩
  | .cons _ _ _ _ _, _ => ⟨(fun c hc => nomatch hc), (fun c hc => nomatch hc)⟩
end
/-- What ends ahead of its end is not read. -/
theorem cut_none {α : Type} {p : Pr α} (hm : Mono p) {s : List UInt8} {v : α} (h : Exact s p v) {n : Nat} (hn : n < s.length) : p (s.take n) = none := by
  cases hp : p (s.take n) with
  | none => rfl
  | some q =>
    obtain ⟨u, r⟩ := q
    have h1 := hm _ _ _ (s.drop n) hp
    rw [List.take_append_drop] at h1
    have h2 := h []
    rw [List.append_nil, h1] at h2
    simp only [Option.some.injEq, Prod.mk.injEq, List.append_eq_nil_iff, List.drop_eq_nil_iff] at h2
    omega
end Go.Proofs.YtmpilpgabelmiaaGreatDoor

/- What is read can be written, in as many octets at the most. Plain functions over bytes: no program in sight. -/
namespace Go.Proofs.YtmpilpgabelmiaaGreatDoor
set_option linter.unusedVariables false

theorem out_take {n : Nat} {bs l r : List UInt8} (h : rdTake n bs = some (l, r)) : l.length = n ∧ n + r.length = bs.length := by
  unfold rdTake at h
  split at h
  · simp only [Option.some.injEq, Prod.mk.injEq] at h
    obtain ⟨rfl, rfl⟩ := h
    simp
    omega
  · cases h
theorem pure_some {α : Type} {v u : α} {bs r : List UInt8} (h : Pr.pure v bs = some (u, r)) : v = u ∧ bs = r := by
  simpa [Pr.pure] using h
theorem out_nat {k n : Nat} {bs r : List UInt8} (h : rdNat k bs = some (n, r)) : n < 256 ^ k ∧ k + r.length = bs.length := by
  obtain ⟨l, r', h1, h2⟩ := bind_some h
  obtain ⟨rfl, rfl⟩ := pure_some h2
  obtain ⟨e1, e2⟩ := out_take h1
  have := beNat_lt l
  rw [e1] at this
  exact ⟨this, e2⟩
theorem out_int {k : Nat} {m n : Int} {bs r : List UInt8} (hm : 0 < m) (h : rdInt k m bs = some (n, r)) : -m ≤ n ∧ n < m ∧ k + r.length = bs.length := by
  obtain ⟨l, r', h1, h2⟩ := bind_some h
  obtain ⟨rfl, rfl⟩ := pure_some h2
  obtain ⟨e1, e2⟩ := out_nat h1
  have h3 := Int.emod_nonneg ((l : Int) + m) (b := 2 * m) (by omega)
  have h4 := Int.emod_lt_of_pos ((l : Int) + m) (b := 2 * m) (by omega)
  refine ⟨?_, ?_, e2⟩ <;> (unfold sg; omega)
theorem out_uvF : ∀ {k n : Nat} {bs r : List UInt8}, rdUvF k bs = some (n, r) → n < 16 * 128 ^ k ∧ (Proofs.YtmpilpgabelmiaaGreatDoor.uvF k n).length + r.length ≤ bs.length
  | 0, n, bs, r, h => by
    cases bs with
    | nil => cases h
    | cons b l =>
      simp only [rdUvF] at h
      split at h
      · rename_i hb
        simp only [Option.some.injEq, Prod.mk.injEq] at h
        obtain ⟨rfl, rfl⟩ := h
        simp [Proofs.YtmpilpgabelmiaaGreatDoor.uvF]
        omega
      · cases h
  | k + 1, n, bs, r, h => by
    cases bs with
    | nil => cases h
    | cons b l =>
      simp only [rdUvF] at h
      split at h
      · rename_i hb
        simp only [Option.some.injEq, Prod.mk.injEq] at h
        obtain ⟨rfl, rfl⟩ := h
        have hp : 0 < 128 ^ (k + 1) := Nat.pow_pos (by omega)
        simp only [Proofs.YtmpilpgabelmiaaGreatDoor.uvF, if_pos hb, List.length_cons, List.length_nil]
        rw [Nat.pow_succ] at *
        omega
      · cases hr : rdUvF k l with
        | none => rw [hr] at h; cases h
        | some q =>
          obtain ⟨m, r'⟩ := q
          rw [hr] at h
          simp only [Option.some.injEq, Prod.mk.injEq] at h
          obtain ⟨rfl, rfl⟩ := h
          obtain ⟨h1, h2⟩ := out_uvF hr
          have e : (b.toNat % 128 + 128 * m) / 128 = m := by omega
          refine ⟨by rw [Nat.pow_succ]; omega, ?_⟩
          simp only [Proofs.YtmpilpgabelmiaaGreatDoor.uvF, e]
          split
          · simp only [List.length_cons, List.length_nil]
            have := (uvF_length k m).2
            omega
          · simp only [List.length_cons]
            omega
theorem out_uv {n : Nat} {bs r : List UInt8} (h : rdUv bs = some (n, r)) : n ≤ 4294967295 ∧ (Proofs.YtmpilpgabelmiaaGreatDoor.uv n).length + r.length ≤ bs.length := by
  obtain ⟨h1, h2⟩ := out_uvF h
  refine ⟨by omega, ?_⟩
  have e : Proofs.YtmpilpgabelmiaaGreatDoor.uv n = Proofs.YtmpilpgabelmiaaGreatDoor.uvF 4 n := uvF_more 4 5 n h1
  rw [e]
  exact h2
theorem uvF_mono : ∀ (k n m : Nat), n ≤ m → (Proofs.YtmpilpgabelmiaaGreatDoor.uvF k n).length ≤ (Proofs.YtmpilpgabelmiaaGreatDoor.uvF k m).length
  | 0, _, _, _ => by simp [Proofs.YtmpilpgabelmiaaGreatDoor.uvF]
  | k + 1, n, m, h => by
    simp only [Proofs.YtmpilpgabelmiaaGreatDoor.uvF]
    split
    · split
      · simp
      · have := (uvF_length k (m / 128)).2
        simp only [List.length_cons, List.length_nil]
        omega
    · rw [if_neg (by omega)]
      have := uvF_mono k (n / 128) (m / 128) (by omega)
      simp only [List.length_cons]
      omega
theorem uv_mono {n m : Nat} (h : n ≤ m) : (Proofs.YtmpilpgabelmiaaGreatDoor.uv n).length ≤ (Proofs.YtmpilpgabelmiaaGreatDoor.uv m).length := uvF_mono 9 n m h
theorem uv0_length : (Proofs.YtmpilpgabelmiaaGreatDoor.uv 0).length = 1 := by decide
theorem uv1_length : (Proofs.YtmpilpgabelmiaaGreatDoor.uv 1).length = 1 := by decide

def M : Nat := 140737488355328
theorem out_str {flex : Bool} {bs r : List UInt8} {v : GV} (hb : bs.length ≤ M) (h : rdStr flex bs = some (v, r)) : ∃ s, v = .bytes s ∧ s.length ≤ strMax flex ∧ (lenS flex s.length ++ s).length + r.length ≤ bs.length := by
  unfold M at hb
  cases flex
  · simp only [rdStr, Bool.false_eq_true, if_false] at h
    obtain ⟨n, r1, h1, h2⟩ := bind_some h
    obtain ⟨e1, e2, e3⟩ := out_int (by omega) h1
    split at h2
    · cases h2
    · obtain ⟨s, r2, h3, h4⟩ := bind_some h2
      obtain ⟨rfl, rfl⟩ := pure_some h4
      obtain ⟨g1, g2⟩ := out_take h3
      refine ⟨s, rfl, by simp [strMax]; omega, ?_⟩
      simp [lenS, be16_length]
      omega
  · simp only [rdStr, if_true] at h
    obtain ⟨n, r1, h1, h2⟩ := bind_some h
    obtain ⟨e1, e2⟩ := out_uv h1
    split at h2
    · cases h2
    · obtain ⟨s, r2, h3, h4⟩ := bind_some h2
      obtain ⟨rfl, rfl⟩ := pure_some h4
      obtain ⟨g1, g2⟩ := out_take h3
      refine ⟨s, rfl, by simp [strMax]; omega, ?_⟩
      simp only [lenS, if_true, List.length_append]
      rw [g1, show n - 1 + 1 = n by omega]
      omega
theorem out_nstr {flex : Bool} {bs r : List UInt8} {v : GV} (hb : bs.length ≤ M) (h : rdNStr flex bs = some (v, r)) :
    (v = .null ∧ (nulS flex).length + r.length ≤ bs.length) ∨ ∃ s, v = .bytes s ∧ s.length ≤ strMax flex ∧ (lenS flex s.length ++ s).length + r.length ≤ bs.length := by
  unfold M at hb
  cases flex
  · simp only [rdNStr, Bool.false_eq_true, if_false] at h
    obtain ⟨n, r1, h1, h2⟩ := bind_some h
    obtain ⟨e1, e2, e3⟩ := out_int (by omega) h1
    split at h2
    · obtain ⟨rfl, rfl⟩ := pure_some h2
      exact .inl ⟨rfl, by simp [nulS, be16_length]; omega⟩
    · obtain ⟨s, r2, h3, h4⟩ := bind_some h2
      obtain ⟨rfl, rfl⟩ := pure_some h4
      obtain ⟨g1, g2⟩ := out_take h3
      refine .inr ⟨s, rfl, by simp [strMax]; omega, ?_⟩
      simp [lenS, be16_length]
      omega
  · simp only [rdNStr, if_true] at h
    obtain ⟨n, r1, h1, h2⟩ := bind_some h
    obtain ⟨e1, e2⟩ := out_uv h1
    split at h2
    · obtain ⟨rfl, rfl⟩ := pure_some h2
      subst n
      exact .inl ⟨rfl, by simpa [nulS] using e2⟩
    · obtain ⟨s, r2, h3, h4⟩ := bind_some h2
      obtain ⟨rfl, rfl⟩ := pure_some h4
      obtain ⟨g1, g2⟩ := out_take h3
      refine .inr ⟨s, rfl, by simp [strMax]; omega, ?_⟩
      simp only [lenS, if_true, List.length_append]
      rw [g1, show n - 1 + 1 = n by omega]
      omega
theorem out_bytes {flex : Bool} {bs r : List UInt8} {v : GV} (hb : bs.length ≤ M) (h : rdBytes flex bs = some (v, r)) : ∃ s, v = .bytes s ∧ s.length ≤ bMax flex ∧ (lenB flex s.length ++ s).length + r.length ≤ bs.length := by
  unfold M at hb
  cases flex
  · simp only [rdBytes, Bool.false_eq_true, if_false] at h
    obtain ⟨n, r1, h1, h2⟩ := bind_some h
    obtain ⟨e1, e2, e3⟩ := out_int (by omega) h1
    split at h2
    · obtain ⟨rfl, rfl⟩ := pure_some h2
      exact ⟨[], rfl, by simp, by simp [lenB, be32_length]; omega⟩
    · split at h2
      · cases h2
      · obtain ⟨s, r2, h3, h4⟩ := bind_some h2
        obtain ⟨rfl, rfl⟩ := pure_some h4
        obtain ⟨g1, g2⟩ := out_take h3
        refine ⟨s, rfl, by rw [g1]; show n.toNat ≤ 2147483647; omega, ?_⟩
        simp [lenB, be32_length]
        omega
  · simp only [rdBytes, if_true] at h
    obtain ⟨n, r1, h1, h2⟩ := bind_some h
    obtain ⟨e1, e2⟩ := out_uv h1
    split at h2
    · obtain ⟨rfl, rfl⟩ := pure_some h2
      subst n
      rw [uv0_length] at e2
      exact ⟨[], rfl, by simp, by simp [lenB, uv1_length]; omega⟩
    · obtain ⟨s, r2, h3, h4⟩ := bind_some h2
      obtain ⟨rfl, rfl⟩ := pure_some h4
      obtain ⟨g1, g2⟩ := out_take h3
      refine ⟨s, rfl, by rw [g1]; show n - 1 ≤ 4294967294; omega, ?_⟩
      simp only [lenB, if_true, List.length_append]
      rw [g1, show n - 1 + 1 = n by omega]
      omega
theorem out_leaf {ver : Int} {flex : Bool} {k : Leaf} {bs r : List UInt8} {v : GV} (hb : bs.length ≤ M) (h : rdLeaf ver flex k bs = some (v, r)) : wfLeaf ver flex k v ∧ (apLeaf ver flex k v).length + r.length ≤ bs.length := by
  cases k <;> simp only [rdLeaf] at h
  case i8 =>
    obtain ⟨n, r1, h1, h2⟩ := bind_some h
    obtain ⟨rfl, rfl⟩ := pure_some h2
    obtain ⟨e1, e2, e3⟩ := out_int (by omega) h1
    exact ⟨⟨by omega, by omega⟩, by simp [apLeaf]; omega⟩
  case i16 =>
    obtain ⟨n, r1, h1, h2⟩ := bind_some h
    obtain ⟨rfl, rfl⟩ := pure_some h2
    obtain ⟨e1, e2, e3⟩ := out_int (by omega) h1
    exact ⟨⟨by omega, by omega⟩, by simp [apLeaf, be16_length]; omega⟩
  case i32 =>
    obtain ⟨n, r1, h1, h2⟩ := bind_some h
    obtain ⟨rfl, rfl⟩ := pure_some h2
    obtain ⟨e1, e2, e3⟩ := out_int (by omega) h1
    exact ⟨⟨by omega, by omega⟩, by simp [apLeaf, be32_length]; omega⟩
  case i64 =>
    obtain ⟨n, r1, h1, h2⟩ := bind_some h
    obtain ⟨rfl, rfl⟩ := pure_some h2
    obtain ⟨e1, e2, e3⟩ := out_int (by omega) h1
    exact ⟨⟨by omega, by omega⟩, by simp [apLeaf, be64_length]; omega⟩
  case u16 =>
    obtain ⟨n, r1, h1, h2⟩ := bind_some h
    obtain ⟨rfl, rfl⟩ := pure_some h2
    obtain ⟨e1, e3⟩ := out_nat h1
    exact ⟨⟨by omega, by omega⟩, by simp [apLeaf, be16_length]; omega⟩
  case bool =>
    obtain ⟨n, r1, h1, h2⟩ := bind_some h
    obtain ⟨rfl, rfl⟩ := pure_some h2
    obtain ⟨e1, e3⟩ := out_nat h1
    exact ⟨trivial, by simp [apLeaf]; omega⟩
  case uuid =>
    obtain ⟨n, r1, h1, h2⟩ := bind_some h
    obtain ⟨rfl, rfl⟩ := pure_some h2
    obtain ⟨e1, e3⟩ := out_take h1
    exact ⟨e1, by simp [apLeaf]; omega⟩
  case str =>
    obtain ⟨s, rfl, h1, h2⟩ := out_str hb h
    exact ⟨h1, h2⟩
  case nstr =>
    rcases out_nstr hb h with ⟨rfl, h1⟩ | ⟨s, rfl, h1, h2⟩
    · exact ⟨trivial, h1⟩
    · exact ⟨h1, h2⟩
  case bytes =>
    obtain ⟨s, rfl, h1, h2⟩ := out_bytes hb h
    exact ⟨h1, h2⟩
  case nstrFrom m =>
    by_cases hm : ver < m
    · rw [if_pos hm] at h
      obtain ⟨s, rfl, h1, h2⟩ := out_str hb h
      exact ⟨h1, h2⟩
    · rw [if_neg hm] at h
      rcases out_nstr hb h with ⟨rfl, h1⟩ | ⟨s, rfl, h1, h2⟩
      · exact ⟨hm, by simpa [apLeaf, hm] using h1⟩
      · exact ⟨h1, h2⟩
theorem out_count {flex : Bool} {bs r : List UInt8} {n : Int} (h : rdCount flex bs = some (n, r)) : (nulB flex).length + r.length ≤ bs.length ∧ (lenB flex n.toNat).length + r.length ≤ bs.length ∧ n ≤ 2147483647 := by
  cases flex
  · simp only [rdCount, Bool.false_eq_true, if_false] at h
    obtain ⟨e1, e2, e3⟩ := out_int (by omega) h
    simp [nulB, lenB, be32_length]
    omega
  · simp only [rdCount, if_true] at h
    obtain ⟨m, r1, h1, h2⟩ := bind_some h
    obtain ⟨rfl, rfl⟩ := pure_some h2
    obtain ⟨e1, e2⟩ := out_uv h1
    have e3 := uv_pos m
    simp only [nulB, lenB, if_true, uv0_length]
    refine ⟨by omega, ?_, by unfold sg; omega⟩
    have e4 : (sg 2147483648 (sg 2147483648 m - 1)).toNat + 1 ≤ m ∨ (sg 2147483648 (sg 2147483648 m - 1)).toNat = 0 := by unfold sg; omega
    rcases e4 with e4 | e4
    · have := uv_mono e4
      omega
    · rw [e4, Nat.zero_add, uv1_length]
      omega
theorem out_len {flex : Bool} {bs r : List UInt8} {n : Int} (h : rdLen flex bs = some (n, r)) : n ≤ r.length ∧ (nulB flex).length + r.length ≤ bs.length ∧ (lenB flex n.toNat).length + r.length ≤ bs.length ∧ n ≤ 2147483647 := by
  obtain ⟨m, r1, h1, h2⟩ := bind_some h
  split at h2
  · cases h2
  · rename_i hm
    simp only [Option.some.injEq, Prod.mk.injEq] at h2
    obtain ⟨rfl, rfl⟩ := h2
    obtain ⟨e1, e2, e3⟩ := out_count h1
    exact ⟨by omega, e1, e2, e3⟩
theorem out_tag1 {bs r : List UInt8} {t : Nat × List UInt8} (hb : bs.length ≤ M) (h : rdTag1 bs = some (t, r)) : t.1 ≤ 4294967295 ∧ t.2.length ≤ 4294967295 ∧ (apTags [t]).length + r.length ≤ bs.length := by
  unfold M at hb
  obtain ⟨k, r1, h1, h2⟩ := bind_some h
  obtain ⟨n, r2, h3, h4⟩ := bind_some h2
  obtain ⟨v, r3, h5, h6⟩ := bind_some h4
  obtain ⟨rfl, rfl⟩ := pure_some h6
  obtain ⟨a1, a2⟩ := out_uv h1
  obtain ⟨b1, b2⟩ := out_uv h3
  obtain ⟨c1, c2⟩ := out_take h5
  refine ⟨a1, by simp only; omega, ?_⟩
  simp only [apTags, List.flatMap_cons, List.flatMap_nil, List.append_nil, List.length_append]
  rw [c1]
  omega
theorem apTags_cons (t : Nat × List UInt8) (l : List (Nat × List UInt8)) : (apTags (t :: l)).length = (apTags [t]).length + (apTags l).length := by
  simp [apTags]
  omega
theorem out_many_tags : ∀ {n : Nat} {bs r : List UInt8} {l : List (Nat × List UInt8)}, bs.length ≤ M → rdMany rdTag1 n bs = some (l, r) →
    l.length = n ∧ (∀ t ∈ l, t.1 ≤ 4294967295 ∧ t.2.length ≤ 4294967295) ∧ (apTags l).length + r.length ≤ bs.length ∧ n + r.length ≤ bs.length
  | 0, bs, r, l, _, h => by
    obtain ⟨rfl, rfl⟩ := pure_some h
    exact ⟨rfl, (fun t ht => nomatch ht), by simp [apTags], by omega⟩
  | n + 1, bs, r, l, hb, h => by
    obtain ⟨t, r1, h1, h2⟩ := bind_some h
    obtain ⟨l', r2, h3, h4⟩ := bind_some h2
    obtain ⟨rfl, rfl⟩ := pure_some h4
    obtain ⟨a1, a2, a3⟩ := out_tag1 hb h1
    obtain ⟨b1, b2, b3, b4⟩ := out_many_tags (by omega) h3
    have hp : 1 ≤ (apTags [t]).length := by
      have := uv_pos t.1
      simp only [apTags, List.flatMap_cons, List.flatMap_nil, List.append_nil, List.length_append]
      omega
    refine ⟨by simp [b1], ?_, by rw [apTags_cons]; omega, by omega⟩
    intro u hu
    rcases List.mem_cons.1 hu with rfl | hu
    · exact ⟨a1, a2⟩
    · exact b2 u hu
theorem rising_cons {t : Nat × List UInt8} {l : List (Nat × List UInt8)} (h : rising l) (k : ∀ u ∈ l, t.1 < u.1) : rising (t :: l) := by
  cases l with
  | nil => trivial
  | cons a l => exact ⟨k a (List.mem_cons_self ..), h⟩
theorem tagIns_mem : ∀ (l : List (Nat × List UInt8)) (k : Nat) (v : List UInt8) (u : Nat × List UInt8), u ∈ tagIns k v l → u = (k, v) ∨ u ∈ l
  | [], k, v, u, h => by simpa [tagIns] using h
  | (j, x) :: l, k, v, u, h => by
    simp only [tagIns] at h
    split at h
    · simpa using h
    · split at h
      · rcases List.mem_cons.1 h with h | h
        · exact .inl h
        · exact .inr (List.mem_cons_of_mem _ h)
      · rcases List.mem_cons.1 h with h | h
        · exact .inr (by rw [h]; exact List.mem_cons_self ..)
        · rcases tagIns_mem l k v u h with h | h
          · exact .inl h
          · exact .inr (List.mem_cons_of_mem _ h)
theorem tagIns_rising : ∀ (l : List (Nat × List UInt8)) (k : Nat) (v : List UInt8), rising l → rising (tagIns k v l) ∧ (tagIns k v l).length ≤ l.length + 1 ∧ (apTags (tagIns k v l)).length ≤ (apTags [(k, v)]).length + (apTags l).length
  | [], k, v, _ => ⟨trivial, by simp [tagIns], by simp [tagIns, apTags]⟩
  | (j, x) :: l, k, v, h => by
    obtain ⟨h1, h2⟩ := rising_tail h
    simp only [tagIns]
    split
    · rename_i hk
      refine ⟨⟨hk, h⟩, by simp, by rw [apTags_cons (k, v)]; omega⟩
    · split
      · rename_i hk hj
        subst hj
        refine ⟨rising_cons h1 h2, by simp, ?_⟩
        rw [apTags_cons, apTags_cons (k, x)]
        omega
      · rename_i hk hj
        obtain ⟨i1, i2, i3⟩ := tagIns_rising l k v h1
        refine ⟨rising_cons i1 ?_, by simp only [List.length_cons]; omega, by rw [apTags_cons (j, x), apTags_cons (j, x) l]; omega⟩
        intro u hu
        rcases tagIns_mem l k v u hu with rfl | hu
        · simp only; omega
        · exact h2 u hu
theorem foldl_out : ∀ (l acc : List (Nat × List UInt8)), rising acc → (∀ t ∈ acc, t.1 ≤ 4294967295 ∧ t.2.length ≤ 4294967295) → (∀ t ∈ l, t.1 ≤ 4294967295 ∧ t.2.length ≤ 4294967295) →
    rising (l.foldl (fun acc t => tagIns t.1 t.2 acc) acc) ∧ (l.foldl (fun acc t => tagIns t.1 t.2 acc) acc).length ≤ acc.length + l.length ∧
    (apTags (l.foldl (fun acc t => tagIns t.1 t.2 acc) acc)).length ≤ (apTags acc).length + (apTags l).length ∧ (∀ t ∈ l.foldl (fun acc t => tagIns t.1 t.2 acc) acc, t.1 ≤ 4294967295 ∧ t.2.length ≤ 4294967295)
  | [], acc, h, h2, _ => ⟨h, by simp, by simp [apTags], h2⟩
  | t :: l, acc, h, h2, h3 => by
    obtain ⟨i1, i2, i3⟩ := tagIns_rising acc t.1 t.2 h
    obtain ⟨j1, j2, j3, j4⟩ := foldl_out l (tagIns t.1 t.2 acc) i1 (fun u hu => by
      rcases tagIns_mem acc t.1 t.2 u hu with rfl | hu
      · exact h3 _ (List.mem_cons_self ..)
      · exact h2 u hu) (fun u hu => h3 u (List.mem_cons_of_mem _ hu))
    simp only [List.foldl_cons]
    refine ⟨j1, by simp only [List.length_cons]; omega, ?_, j4⟩
    rw [apTags_cons t l]
    have e : (apTags [(t.1, t.2)]).length = (apTags [t]).length := rfl
    omega
theorem out_tagsRaw {bs r : List UInt8} {l : List (Nat × List UInt8)} (hb : bs.length ≤ M) (h : rdTagsRaw bs = some (l, r)) :
    rising (tagSort l) ∧ (tagSort l).length ≤ l.length ∧ l.length ≤ 4294967295 ∧ (∀ t ∈ l, t.1 ≤ 4294967295 ∧ t.2.length ≤ 4294967295) ∧ (∀ t ∈ tagSort l, t.1 ≤ 4294967295 ∧ t.2.length ≤ 4294967295) ∧ (Proofs.YtmpilpgabelmiaaGreatDoor.uv (tagSort l).length ++ apTags (tagSort l)).length + r.length ≤ bs.length := by
  obtain ⟨n, r1, h1, h2⟩ := bind_some h
  obtain ⟨a1, a2⟩ := out_uv h1
  obtain ⟨b1, b2, b3, b4⟩ := out_many_tags (by omega) h2
  obtain ⟨c1, c2, c3, c4⟩ := foldl_out l [] trivial (fun t ht => nomatch ht) b2
  have e0 : (apTags []).length = 0 := rfl
  have c2' : (tagSort l).length ≤ l.length := by
    have : (tagSort l).length ≤ ([] : List (Nat × List UInt8)).length + l.length := c2
    simpa using this
  have c3' : (apTags (tagSort l)).length ≤ (apTags []).length + (apTags l).length := c3
  refine ⟨c1, c2', by omega, b2, c4, ?_⟩
  have := uv_mono c2'
  simp only [List.length_append]
  rw [b1] at this
  omega
theorem out_many {ver : Int} {flex : Bool} {e : Sch} (ih : ∀ {bs r : List UInt8} {v : GV}, bs.length ≤ M → rd ver flex e bs = some (v, r) → WF ver flex e v ∧ (ap ver flex e v).length + r.length ≤ bs.length) :
    ∀ {n : Nat} {bs r : List UInt8} {l : List GV}, bs.length ≤ M → rdMany (rd ver flex e) n bs = some (l, r) → l.length = n ∧ (∀ v ∈ l, WF ver flex e v) ∧ (l.flatMap (ap ver flex e)).length + r.length ≤ bs.length
  | 0, bs, r, l, _, h => by
    obtain ⟨rfl, rfl⟩ := pure_some h
    exact ⟨rfl, (fun t ht => nomatch ht), by simp⟩
  | n + 1, bs, r, l, hb, h => by
    obtain ⟨t, r1, h1, h2⟩ := bind_some h
    obtain ⟨l', r2, h3, h4⟩ := bind_some h2
    obtain ⟨rfl, rfl⟩ := pure_some h4
    obtain ⟨a1, a2⟩ := ih hb h1
    obtain ⟨b1, b2, b3⟩ := out_many ih (by omega) h3
    refine ⟨by simp [b1], ?_, by simp only [List.flatMap_cons, List.length_append]; omega⟩
    intro u hu
    rcases List.mem_cons.1 hu with rfl | hu
    · exact a1
    · exact b2 u hu
/-! Known tags. -/
theorem apTags_append (a b : List (Nat × List UInt8)) : (apTags (a ++ b)).length = (apTags a).length + (apTags b).length := by
  simp [apTags, List.flatMap_append]
theorem wfl_set {ver : Int} {flex : Bool} : ∀ {cs : List (Int × Sch)} {vs : List GV} {k : Nat} {c : Int × Sch} {x : GV}, WFL ver flex cs vs → cs[k]? = some c → WF ver flex c.2 x → (ap ver flex c.2 x).length ≤ 4294967295 → WFL ver flex cs (vs.set k x)
  | [], vs, k, c, x, _, hc, _, _ => by simp at hc
  | _ :: _, [], _, _, _, h, _, _, _ => h.elim
  | c0 :: cs, v :: vs, 0, c, x, h, hc, hw, hl => by
    simp only [List.getElem?_cons_zero, Option.some.injEq] at hc
    subst hc
    exact ⟨hw, hl, h.2.2⟩
  | c0 :: cs, v :: vs, k + 1, c, x, h, hc, hw, hl => ⟨h.1, h.2.1, wfl_set h.2.2 (by simpa using hc) hw hl⟩
theorem ktL_set {ver : Int} {flex : Bool} : ∀ {cs : List (Int × Sch)} {vs : List GV} {k i : Nat} {c : Int × Sch} {x : GV}, WFL ver flex cs vs → cs[k]? = some c →
    (ktL ver flex cs i (vs.set k x)).length ≤ (ktL ver flex cs i vs).length + 1 ∧ (apTags (ktL ver flex cs i (vs.set k x))).length ≤ (apTags (ktL ver flex cs i vs)).length + (apTags [(i + k, ap ver flex c.2 x)]).length
  | [], vs, k, i, c, x, _, hc => by simp at hc
  | _ :: _, [], _, _, _, _, h, _ => h.elim
  | c0 :: cs, v :: vs, 0, i, c, x, h, hc => by
    simp only [List.getElem?_cons_zero, Option.some.injEq] at hc
    subst hc
    simp only [List.set_cons_zero, ktL, List.length_append, apTags_append, Nat.add_zero]
    constructor
    · split <;> split <;> simp <;> omega
    · have e0 : (apTags []).length = 0 := rfl
      split <;> split <;> omega
  | c0 :: cs, v :: vs, k + 1, i, c, x, h, hc => by
    obtain ⟨h1, h2⟩ := ktL_set (i := i + 1) (x := x) h.2.2 (show cs[k]? = some c by simpa using hc)
    simp only [List.set_cons_succ, ktL, List.length_append, apTags_append]
    rw [show i + 1 + k = i + (k + 1) by omega] at h2
    omega
theorem tag_size {k : Nat} {a b : List UInt8} (h : a.length ≤ b.length) : (apTags [(k, a)]).length ≤ (apTags [(k, b)]).length := by
  have := uv_mono h
  simp only [apTags, List.flatMap_cons, List.flatMap_nil, List.append_nil, List.length_append]
  omega
theorem out_kfold {ver : Int} (cs : List (Int × Sch)) (ih : ∀ c ∈ cs, ∀ {bs r : List UInt8} {v : GV}, bs.length ≤ M → rd ver true c.2 bs = some (v, r) → WF ver true c.2 v ∧ (ap ver true c.2 v).length + r.length ≤ bs.length) :
    ∀ (l : List (Nat × List UInt8)) (vs : List GV) (us : List (Nat × List UInt8)) (vs' : List GV) (us' : List (Nat × List UInt8)), (∀ t ∈ l, t.1 ≤ 4294967295 ∧ t.2.length ≤ 4294967295) → WFL ver true cs vs → rising us → (∀ t ∈ us, cs.length ≤ t.1 ∧ t.1 ≤ 4294967295 ∧ t.2.length ≤ 4294967295) →
    kfold (cs.map fun c => (dfl c.2 c.1, rd ver true c.2)) l (vs, us) = some (vs', us') →
    WFL ver true cs vs' ∧ rising us' ∧ (∀ t ∈ us', cs.length ≤ t.1 ∧ t.1 ≤ 4294967295 ∧ t.2.length ≤ 4294967295) ∧ (ktL ver true cs 0 vs').length + us'.length ≤ (ktL ver true cs 0 vs).length + us.length + l.length ∧
      (apTags (ktL ver true cs 0 vs')).length + (apTags us').length ≤ (apTags (ktL ver true cs 0 vs)).length + (apTags us).length + (apTags l).length
  | [], vs, us, vs', us', _, hw, hr, hu, h => by
    simp only [kfold, Option.some.injEq, Prod.mk.injEq] at h
    obtain ⟨rfl, rfl⟩ := h
    exact ⟨hw, hr, hu, by omega, by omega⟩
  | t :: l, vs, us, vs', us', hl, hw, hr, hu, h => by
    have ht := hl t (List.mem_cons_self ..)
    have hl' : ∀ t ∈ l, t.1 ≤ 4294967295 ∧ t.2.length ≤ 4294967295 := fun u hu => hl u (List.mem_cons_of_mem _ hu)
    rw [apTags_cons t l]
    simp only [kfold, kstep, List.getElem?_map] at h
    cases hc : cs[t.1]? with
    | none =>
      rw [hc] at h
      simp only [Option.map_none, Option.bind_some] at h
      obtain ⟨i1, i2, i3⟩ := tagIns_rising us t.1 t.2 hr
      have hk : cs.length ≤ t.1 := List.getElem?_eq_none_iff.1 hc
      obtain ⟨j1, j2, j3, j4, j5⟩ := out_kfold cs ih l vs (tagIns t.1 t.2 us) vs' us' hl' hw i1 (fun u hu' => by
        rcases tagIns_mem us t.1 t.2 u hu' with rfl | hu'
        · exact ⟨hk, ht.1, ht.2⟩
        · exact hu u hu') h
      have e : (apTags [(t.1, t.2)]).length = (apTags [t]).length := rfl
      exact ⟨j1, j2, j3, by simp only [List.length_cons]; omega, by omega⟩
    | some c =>
      rw [hc] at h
      simp only [Option.map_some] at h
      cases hx : rd ver true c.2 t.2 with
      | none => rw [hx] at h; simp at h
      | some q =>
        obtain ⟨x, r⟩ := q
        rw [hx] at h
        simp only [Option.map_some, Option.bind_some] at h
        obtain ⟨a1, a2⟩ := ih c (List.mem_of_getElem? hc) (by unfold M; omega) hx
        obtain ⟨s1, s2⟩ := ktL_set (i := 0) (x := x) hw hc
        rw [Nat.zero_add] at s2
        obtain ⟨j1, j2, j3, j4, j5⟩ := out_kfold cs ih l (vs.set t.1 x) us vs' us' hl' (wfl_set hw hc a1 (by omega)) hr hu h
        have e := tag_size (k := t.1) (a := ap ver true c.2 x) (b := t.2) (by omega)
        have e2 : (apTags [(t.1, t.2)]).length = (apTags [t]).length := rfl
        exact ⟨j1, j2, j3, by simp only [List.length_cons]; omega, by omega⟩
theorem chain_out {ver : Int} {flex : Bool} {off : Nat} {d : Int} {f rest : Sch} (hok : okS ver flex (.ktag off d f rest) = true) {bs r : List UInt8} {v : GV} (hb : bs.length ≤ M) (h : rd ver flex (.ktag off d f rest) bs = some (v, r))
    (hk : ∀ c ∈ chainL (.ktag off d f rest), knd c.2 c.1 = true) (ih : ∀ c ∈ chainL (.ktag off d f rest), ∀ {bs r : List UInt8} {v : GV}, bs.length ≤ M → rd ver flex c.2 bs = some (v, r) → WF ver flex c.2 v ∧ (ap ver flex c.2 v).length + r.length ≤ bs.length) :
    WF ver flex (.ktag off d f rest) v ∧ (ap ver flex (.ktag off d f rest) v).length + r.length ≤ bs.length := by
  have hc2 : isChain rest = true ∧ (chainL rest).length < 1000 := by
    simp only [okS, Bool.and_eq_true, decide_eq_true_eq] at hok
    exact hok.2
  have hc : isChain (.ktag off d f rest) = true := hc2.1
  have hkp : (dfl f d, rd ver flex f) :: kp ver flex rest = (chainL (.ktag off d f rest)).map fun c => (dfl c.2 c.1, rd ver flex c.2) := kp_chain ver flex (.ktag off d f rest)
  have hmap : ((chainL (.ktag off d f rest)).map fun c => (dfl c.2 c.1, rd ver flex c.2)).map (·.1) = (chainL (.ktag off d f rest)).map fun c => dfl c.2 c.1 := by
    rw [List.map_map]
    rfl
  have apk : ∀ vs us, WFL ver flex (chainL (.ktag off d f rest)) vs → ap ver flex (.ktag off d f rest) (kval vs us) = if flex then kOut (ktL ver flex (chainL (.ktag off d f rest)) 0 vs ++ us) else [] := by
    intro vs us hw
    rw [← kt_kval hc (WFL.length hw)]
    cases vs with
    | nil => exact hw.elim
    | cons x vs => rfl
  have hd := dfl_wfl hok
  have h0 := ktL_dfl (ver := ver) (flex := flex) _ 0 hk
  unfold rd rdKn at h
  rw [hkp, hmap] at h
  cases flex
  · simp only [Bool.false_eq_true, if_false] at h
    obtain ⟨rfl, rfl⟩ := pure_some h
    refine ⟨wf_kval hc hd ⟨trivial, by simp, (fun t ht => nomatch ht), fun _ => rfl⟩ (fun t ht => nomatch ht) (by rw [h0]; simp), ?_⟩
    rw [apk _ _ hd]
    simp
  · simp only [if_true] at h
    obtain ⟨l, r1, h1, h2⟩ := bind_some h
    obtain ⟨q, hq, h3⟩ := Option.map_eq_some_iff.1 h2
    simp only [Prod.mk.injEq] at h3
    obtain ⟨rfl, rfl⟩ := h3
    obtain ⟨n, r2, g1, g2⟩ := bind_some h1
    obtain ⟨a1, a2⟩ := out_uv g1
    obtain ⟨b1, b2, b3, b4⟩ := out_many_tags (by omega) g2
    obtain ⟨j1, j2, j3, j4, j5⟩ := out_kfold _ ih l _ [] q.1 q.2 b2 hd trivial (fun t ht => nomatch ht) hq
    have e0 : (apTags []).length = 0 := rfl
    rw [h0] at j4 j5
    simp only [List.length_nil, Nat.zero_add] at j4
    rw [e0, Nat.add_zero, Nat.zero_add] at j5
    refine ⟨wf_kval hc j1 ⟨j2, by omega, (fun t ht => (j3 t ht).2), fun h => nomatch h⟩ (fun t ht => (j3 t ht).1) (by omega), ?_⟩
    rw [apk _ _ j1, if_pos rfl]
    have hm := uv_mono (n := (ktL ver true (chainL (.ktag off d f rest)) 0 q.1 ++ q.2).length) (m := n) (by simp only [List.length_append]; omega)
    simp only [kOut, List.length_append, apTags_append] at hm ⊢
    omega
mutual
/-- What is read can be written, in as many octets at the most. -/
theorem rd_out (ver : Int) (flex : Bool) : ∀ (s : Sch), okS ver flex s = true → ∀ {bs r : List UInt8} {v : GV}, bs.length ≤ M → rd ver flex s bs = some (v, r) → WF ver flex s v ∧ (ap ver flex s v).length + r.length ≤ bs.length
  | .leaf k, _, bs, r, v, hb, h => out_leaf hb h
  | .list nul z e, hk, bs, r, v, hb, h => by
    simp only [okS, Bool.and_eq_true] at hk
    unfold rd at h
    obtain ⟨n, r1, h1, h2⟩ := bind_some h
    obtain ⟨a1, a2, a3, a4⟩ := out_len h1
    split at h2
    · rename_i hn
      obtain ⟨rfl, rfl⟩ := pure_some h2
      exact ⟨hn.2, a2⟩
    · obtain ⟨l, r2, h3, h4⟩ := bind_some h2
      obtain ⟨rfl, rfl⟩ := pure_some h4
      obtain ⟨b1, b2, b3⟩ := out_many (rd_out ver flex e hk.2) (by omega) h3
      unfold M at hb
      refine ⟨⟨by omega, b2⟩, ?_⟩
      simp only [ap, List.length_append]
      rw [b1]
      omega
  | .opt e, hk, bs, r, v, hb, h => by
    simp only [okS, Bool.and_eq_true] at hk
    unfold rd at h
    obtain ⟨n, r1, h1, h2⟩ := bind_some h
    obtain ⟨a1, a2, a3⟩ := out_int (by omega) h1
    split at h2
    · obtain ⟨rfl, rfl⟩ := pure_some h2
      exact ⟨trivial, by simp [ap]; omega⟩
    · obtain ⟨b1, b2⟩ := rd_out ver flex e hk.2 (by omega) h2
      have hv : v ≠ .null := by
        rintro rfl
        cases e <;> simp [WF] at b1 hk
      have a2 : ap ver flex (.opt e) v = 1 :: ap ver flex e v := by cases v <;> first | exact absurd rfl hv | rfl
      refine ⟨by cases v <;> first | exact absurd rfl hv | exact b1, ?_⟩
      rw [a2]
      simp only [List.length_cons]
      omega
  | .done, _, bs, r, v, hb, h => by
    obtain ⟨rfl, rfl⟩ := pure_some h
    exact ⟨trivial, by simp [ap]⟩
  | .tags _, _, bs, r, v, hb, h => by
    unfold rd rdTags at h
    cases flex
    · simp only [Bool.false_eq_true, if_false] at h
      obtain ⟨rfl, rfl⟩ := pure_some h
      exact ⟨⟨trivial, by simp, (fun t ht => nomatch ht), fun _ => rfl⟩, by simp [ap]⟩
    · simp only [if_true] at h
      obtain ⟨l, r1, h1, h2⟩ := bind_some h
      obtain ⟨rfl, rfl⟩ := pure_some h2
      obtain ⟨a1, a2, a3, a4, a5, a6⟩ := out_tagsRaw hb h1
      exact ⟨⟨a1, by omega, a5, fun h => nomatch h⟩, by simpa [ap] using a6⟩
  | .cons off lo hi f rest, hk, bs, r, v, hb, h => by
    simp only [okS, Bool.and_eq_true, Bool.or_eq_true, Bool.not_eq_true'] at hk
    unfold rd at h
    by_cases hv : hasV lo hi ver = true
    · rw [if_pos hv] at h
      obtain ⟨x, r1, h1, h2⟩ := bind_some h
      obtain ⟨y, r2, h3, h4⟩ := bind_some h2
      obtain ⟨rfl, rfl⟩ := pure_some h4
      obtain ⟨a1, a2⟩ := rd_out ver flex f (hk.1.resolve_left (by rw [hv]; exact fun h => by cases h)) hb h1
      obtain ⟨b1, b2⟩ := rd_out ver flex rest hk.2 (by omega) h3
      refine ⟨⟨fun _ => a1, b1⟩, ?_⟩
      simp only [ap, if_pos hv, List.length_append]
      omega
    · rw [if_neg hv] at h
      obtain ⟨y, r2, h3, h4⟩ := bind_some h
      obtain ⟨rfl, rfl⟩ := pure_some h4
      obtain ⟨b1, b2⟩ := rd_out ver flex rest hk.2 (by omega) h3
      refine ⟨⟨fun h => absurd h hv, b1⟩, ?_⟩
      simp only [ap, if_neg hv, List.nil_append]
      exact b2
  | .ktag off d f rest, hk, bs, r, v, hb, h => by
    have hk' := hk
    simp only [okS, Bool.and_eq_true] at hk'
    refine chain_out hk hb h ?_ ?_
    · intro c hc
      rcases List.mem_cons.1 hc with rfl | hc
      · exact hk'.1.1.1
      · exact (rd_apC ver flex rest hk'.1.2).1 c hc
    · intro c hc bs r v hb h
      rcases List.mem_cons.1 hc with rfl | hc
      · exact rd_out ver flex f hk'.1.1.2 hb h
      · exact rd_outC ver flex rest hk'.1.2 c hc hb h
theorem rd_outC (ver : Int) (flex : Bool) : ∀ (s : Sch), okS ver flex s = true → ∀ c ∈ chainL s, ∀ {bs r : List UInt8} {v : GV}, bs.length ≤ M → rd ver flex c.2 bs = some (v, r) → WF ver flex c.2 v ∧ (ap ver flex c.2 v).length + r.length ≤ bs.length
  | .ktag off d f rest, hk, c, hc, bs, r, v, hb, h => by
    simp only [okS, Bool.and_eq_true] at hk
    rcases List.mem_cons.1 hc with rfl | hc
    · exact rd_out ver flex f hk.1.1.2 hb h
    · exact rd_outC ver flex rest hk.1.2 c hc hb h
  | .leaf _, _, c, hc, _, _, _, _, _ => nomatch hc
  | .list _ _ _, _, c, hc, _, _, _, _, _ => nomatch hc
  | .opt _, _, c, hc, _, _, _, _, _ => nomatch hc
  | .done, _, c, hc, _, _, _, _, _ => nomatch hc
  | .tags _, _, c, hc, _, _, _, _, _ => nomatch hc
  | .cons _ _ _ _ _, _, c, hc, _, _, _, _, _ => nomatch hc
end
end Go.Proofs.YtmpilpgabelmiaaGreatDoor

/- The reader's numbers in groups of seven bits, texts, octets, counts. -/
namespace Go.Proofs.YtmpilpgabelmiaaGreatDoor
open Go Go.RowKit
set_option linter.unusedVariables false

theorem and8_lo {u : UInt8} (h : u.toNat < 128) : bits BinOp.and IntKind.u8 (u.toNat : Int) 128 = 0 := by
  rw [u8and128 _ u.toNat_lt, if_pos h]
theorem and8_hi {u : UInt8} (h : ¬ u.toNat < 128) : bits BinOp.and IntKind.u8 (u.toNat : Int) 128 = 128 := by
  rw [u8and128 _ u.toNat_lt, if_neg h]
theorem and8_7 (u : UInt8) : bits BinOp.and IntKind.u8 (u.toNat : Int) 127 = ((u.toNat % 128 : Nat) : Int) := u8and127 _ u.toNat_lt
set_option maxHeartbeats 1000000 in
theorem kUvarint (O : List Nat) (w : World) (v : Value) (bs : List UInt8) (h : RB O w v bs) : Calls Tryz.prog 94 #[v] w (UvOut bs w) := by
  obtain ⟨a, cap, rfl, h1, h2, h3⟩ := h
  by_cases hne : bs = []
  · subst hne
    exact uvL0 [] w a 0 cap (by omega) (by omega) rfl
  obtain ⟨b, o, rfl, -, hc⟩ := h3 hne
  cases bs with
  | nil => exact absurd rfl hne
  | cons u0 r0 =>
    by_cases h10 : u0.toNat < 128
    · exact uvS1 (u0 :: r0) w b o (u0 :: r0).length cap u0.toNat (u0.toNat % 128) (by simp; omega) rfl (hc 0 u0 rfl) (and8_7 u0) (and8_lo h10) (by omega) (by simp [rdUv, rdUvF, h10] <;> omega)
    · cases r0 with
      | nil => exact uvL1 [u0] w b o 1 cap u0.toNat (u0.toNat % 128) (by omega) (by omega) (hc 0 u0 rfl) (and8_7 u0) (and8_hi h10) (by simp [rdUv, rdUvF, h10])
      | cons u1 r1 =>
        by_cases h11 : u1.toNat < 128
        · exact uvS2 (u0 :: u1 :: r1) w b o (u0 :: u1 :: r1).length cap u0.toNat u1.toNat (u0.toNat % 128) (u1.toNat % 128) (by simp; omega) rfl (hc 0 u0 rfl) (hc 1 u1 rfl) (and8_7 u0) (and8_hi h10) (and8_7 u1) (and8_lo h11) (by omega) (by omega) (by simp [rdUv, rdUvF, h10, h11] <;> omega)
        · cases r1 with
          | nil => exact uvL2 [u0, u1] w b o 2 cap u0.toNat u1.toNat (u0.toNat % 128) (u1.toNat % 128) (by omega) (by omega) (hc 0 u0 rfl) (hc 1 u1 rfl) (and8_7 u0) (and8_hi h10) (and8_7 u1) (and8_hi h11) (by simp [rdUv, rdUvF, h10, h11])
          | cons u2 r2 =>
            by_cases h12 : u2.toNat < 128
            · exact uvS3 (u0 :: u1 :: u2 :: r2) w b o (u0 :: u1 :: u2 :: r2).length cap u0.toNat u1.toNat u2.toNat (u0.toNat % 128) (u1.toNat % 128) (u2.toNat % 128) (by simp; omega) rfl (hc 0 u0 rfl) (hc 1 u1 rfl) (hc 2 u2 rfl) (and8_7 u0) (and8_hi h10) (and8_7 u1) (and8_hi h11) (and8_7 u2) (and8_lo h12) (by omega) (by omega) (by omega) (by simp [rdUv, rdUvF, h10, h11, h12] <;> omega)
            · cases r2 with
              | nil => exact uvL3 [u0, u1, u2] w b o 3 cap u0.toNat u1.toNat u2.toNat (u0.toNat % 128) (u1.toNat % 128) (u2.toNat % 128) (by omega) (by omega) (hc 0 u0 rfl) (hc 1 u1 rfl) (hc 2 u2 rfl) (and8_7 u0) (and8_hi h10) (and8_7 u1) (and8_hi h11) (and8_7 u2) (and8_hi h12) (by simp [rdUv, rdUvF, h10, h11, h12])
              | cons u3 r3 =>
                by_cases h13 : u3.toNat < 128
                · exact uvS4 (u0 :: u1 :: u2 :: u3 :: r3) w b o (u0 :: u1 :: u2 :: u3 :: r3).length cap u0.toNat u1.toNat u2.toNat u3.toNat (u0.toNat % 128) (u1.toNat % 128) (u2.toNat % 128) (u3.toNat % 128) (by simp; omega) rfl (hc 0 u0 rfl) (hc 1 u1 rfl) (hc 2 u2 rfl) (hc 3 u3 rfl) (and8_7 u0) (and8_hi h10) (and8_7 u1) (and8_hi h11) (and8_7 u2) (and8_hi h12) (and8_7 u3) (and8_lo h13) (by omega) (by omega) (by omega) (by omega) (by simp [rdUv, rdUvF, h10, h11, h12, h13] <;> omega)
                · cases r3 with
                  | nil => exact uvL4 [u0, u1, u2, u3] w b o 4 cap u0.toNat u1.toNat u2.toNat u3.toNat (u0.toNat % 128) (u1.toNat % 128) (u2.toNat % 128) (u3.toNat % 128) (by omega) (by omega) (hc 0 u0 rfl) (hc 1 u1 rfl) (hc 2 u2 rfl) (hc 3 u3 rfl) (and8_7 u0) (and8_hi h10) (and8_7 u1) (and8_hi h11) (and8_7 u2) (and8_hi h12) (and8_7 u3) (and8_hi h13) (by simp [rdUv, rdUvF, h10, h11, h12, h13])
                  | cons u4 r4 =>
                    by_cases h14 : u4.toNat ≤ 15
                    · exact uvS5 (u0 :: u1 :: u2 :: u3 :: u4 :: r4) w b o (u0 :: u1 :: u2 :: u3 :: u4 :: r4).length cap u0.toNat u1.toNat u2.toNat u3.toNat u4.toNat (u0.toNat % 128) (u1.toNat % 128) (u2.toNat % 128) (u3.toNat % 128) (by simp; omega) rfl (hc 0 u0 rfl) (hc 1 u1 rfl) (hc 2 u2 rfl) (hc 3 u3 rfl) (hc 4 u4 rfl) (and8_7 u0) (and8_hi h10) (and8_7 u1) (and8_hi h11) (and8_7 u2) (and8_hi h12) (and8_7 u3) (and8_hi h13) (by omega) (by omega) (by omega) (by omega) (by omega) (by omega) (by simp [rdUv, rdUvF, h10, h11, h12, h13, h14] <;> omega)
                    · exact uvOver (u0 :: u1 :: u2 :: u3 :: u4 :: r4) w b o (u0 :: u1 :: u2 :: u3 :: u4 :: r4).length cap u0.toNat u1.toNat u2.toNat u3.toNat u4.toNat (u0.toNat % 128) (u1.toNat % 128) (u2.toNat % 128) (u3.toNat % 128) (by simp; omega) (hc 0 u0 rfl) (hc 1 u1 rfl) (hc 2 u2 rfl) (hc 3 u3 rfl) (hc 4 u4 rfl) (and8_7 u0) (and8_hi h10) (and8_7 u1) (and8_hi h11) (and8_7 u2) (and8_hi h12) (and8_7 u3) (and8_hi h13) (by omega) (by simp [rdUv, rdUvF, h10, h11, h12, h13, h14])

set_option maxHeartbeats 1000000 in
theorem rUvarint : RdC Tryz.prog 72 rdUv (fun _ _ v n => v = .int .u32 (n : Nat)) (fun v => v = .int .u32 0) := by
  intro O rb w st hO hlt h
  obtain ⟨bs, a, cap, f, hB, hr, hst⟩ : ∃ (bs : List UInt8) (a : Option Addr) (cap : Nat) (f : Bool), Blk w rb [.slice a bs.length cap, .bool f] 110 ∧ RB O w (.slice a bs.length cap) bs ∧ (st = some bs ∧ f = false ∧ bs.length ≤ lim ∨ (st = none ∧ bs = [])) := by
    cases st with
    | none => exact ⟨[], none, 0, true, h, RB.nil _ _, .inr ⟨rfl, rfl⟩⟩
    | some bs =>
      obtain ⟨sv, hB, hr, hM⟩ := h
      obtain ⟨a, cap, rfl, h1, h2, h3⟩ := id hr
      exact ⟨bs, a, cap, false, hB, hr, .inl ⟨rfl, rfl, hM⟩⟩
  have m0 := hB.cell_some (i := 0) rfl
  have f0 := hB.frozen 0
  have f1 := hB.frozen 1
  have m1 := hB.cell_some (i := 1) rfl
  have UV := Lib.hid (kUvarint O w _ bs hr)
  have Z := Lib.hid (And.intro hB (And.intro hr hst))
  obtain ⟨a', cap', e', hc1, hc2, -⟩ := id hr
  cases e'
  clear hB hr hst h hlt
  generalize hn : bs.length = n at *
  have N := Lib.hid hn
  clear hn
  go_enter Tryz.func72, Tryz.ntmps72
  go_wp2_with fail
  refine UV.out.mono ?_
  rintro e w' (⟨hk, hr, rfl, rfl⟩ | ⟨hk, hr, rfl, rfl⟩)
  · rename_i x k
    have hn := N.out
    rw [hn] at hk
    have k0 : (0 : Int) < k := by omega
    have k1 : (k : Int) ≤ n := by omega
    have HR := Lib.hid (And.intro hk hr)
    clear hr hk hn
    go_wp2
    all_goals go_ret
    all_goals
      obtain ⟨hB, hrb, hst⟩ := Z.out
      rcases hst with ⟨rfl, rfl, hM⟩ | ⟨rfl, rfl⟩
      · have hn := N.out
        subst hn
        exact .good HR.out.2 (Rdr.advG hM hO hB hrb (k := k) HR.out.1.2 (by first | exact .inl rfl | exact .inr ⟨by first | rfl | assumption, rfl⟩)) rfl
      · exact absurd HR.out.2 (by simp [rdUv, rdUvF])
  · rename_i k
    have HR := Lib.hid hr
    clear hr
    go_wp2
    go_ret
    obtain ⟨hB, hrb, hst⟩ := Z.out
    have hf := Rdr.fail (O := O) (T := 0) (N.out ▸ hB)
    refine .bad ?_ hf.1 hf.2 rfl
    rcases hst with ⟨rfl, rfl, hM⟩ | ⟨rfl, rfl⟩
    · exact HR.out
    · rfl
theorem fold_push (bs : List UInt8) : ∀ acc : ByteArray, (bs.map fun u => ((u.toNat : Nat) : Int)).foldl (fun r n => r.push (UInt8.ofNat n.toNat)) acc = ⟨acc.data ++ bs.toArray⟩ := by
  induction bs with
  | nil => intro acc; simp
  | cons u l ih =>
    intro acc
    simp only [List.map_cons, List.foldl_cons]
    rw [ih]
    congr 1
    simp [ByteArray.push]
theorem run_str {P : Program} {O : List Nat} {w : World} {v : Value} {bs : List UInt8} (h : RB O w v bs) : (Conv.bytesToString v).run P w = .ok (.string ⟨bs.toArray⟩) w := by
  obtain ⟨a, cap, rfl, h1, h2, h3⟩ := h
  have key : ∀ ad : Addr, (loadCells ad bs.length).run P w = .ok (bs.map byteV).toArray w → (Conv.bytesToString (.slice (some ad) bs.length cap)).run P w = .ok (.string ⟨bs.toArray⟩) w := by
    intro ad hl
    have hm : bs.map byteV = (bs.map fun u => ((u.toNat : Nat) : Int)).map (Value.int .u8) := by
      rw [List.map_map]
      rfl
    rw [hm] at hl
    rw [run_bytesToString w ad bs.length cap _ hl, fold_push]
    simp
  cases a with
  | none =>
    have hn : bs = [] := by
      by_cases hne : bs = []
      · exact hne
      · obtain ⟨b, o, hab, -⟩ := h3 hne
        cases hab
    subst hn
    simp [Conv.bytesToString]
    rfl
  | some ad =>
    by_cases hne : bs = []
    · subst hne
      exact key ad (run_loadCells_list (P := P) w ad [] (fun j v hj => by simp at hj))
    · obtain ⟨b, o, hab, -, hc⟩ := h3 hne
      cases hab
      refine key _ ?_
      have := run_loadCells_list (P := P) w ⟨b, o, none⟩ (bs.map byteV) (fun j v hj => by
        rw [List.getElem?_map] at hj
        cases hbj : bs[j]? with
        | none => simp [hbj] at hj
        | some c =>
          rw [hbj] at hj
          cases hj
          rw [Addr.add_lit]
          exact hc j c hbj)
      simpa using this
/-- Octets as a text. -/
theorem run_conv {O : List Nat} {w : World} {v : Value} {bs : List UInt8} (h : RB O w v bs) : (convert 22 9 v).run Tryz.prog w = .ok (.string ⟨bs.toArray⟩) w := by
  have h2 := run_str (P := Tryz.prog) h
  obtain ⟨a, cap, rfl, -, -, -⟩ := h
  rw [run_convert_bytes_string w _ _ 5 a _ cap Tryz.underlying22 Tryz.underlying5 Tryz.underlying9]
  exact h2
theorem hlt_on {O O' : List Nat} {w w1 : World} (hlt : ∀ k, k ∈ O → k < w.heap.size) (hk : Keeps O' w w1) : ∀ k, k ∈ O → k < w1.heap.size := fun k hk' => Nat.lt_of_lt_of_le (hlt k hk') hk.size
theorem int_bounds {k : Nat} {m n : Int} {st : Option (List UInt8)} {r : List UInt8} (hm : 0 < m) (h : st.bind (rdInt k m) = some (n, r)) : -m ≤ n ∧ n < m := by
  cases st with
  | none => cases h
  | some bs =>
    obtain ⟨l, r', h1, h2⟩ := bind_some (p := rdNat k) h
    simp only [Pr.pure, Option.some.injEq, Prod.mk.injEq] at h2
    obtain ⟨rfl, rfl⟩ := h2
    have h3 := Int.emod_nonneg ((l : Int) + m) (b := 2 * m) (by omega)
    have h4 := Int.emod_lt_of_pos ((l : Int) + m) (b := 2 * m) (by omega)
    constructor <;> (unfold sg; omega)
theorem bind_st {α β : Type} (st : Option (List UInt8)) (p : Pr α) (f : α → Pr β) : st.bind (p.bind f) = (st.bind p).bind fun q => f q.1 q.2 := by
  cases st with
  | none => rfl
  | some bs =>
    change p.bind f bs = (p bs).bind _
    unfold Pr.bind
    cases p bs with
    | none => rfl
    | some q => rfl
theorem span_out {O : List Nat} {w : World} {rb : Nat} {l : Int} {r r2 s : List UInt8} (h : Rdr O w rb (some r)) (hy : rdSpan l r = some (s, r2)) : s.length ≤ lim ∧ (s.length : Int) = l := by
  obtain ⟨sv, -, -, hM⟩ := h
  unfold rdSpan at hy
  split at hy
  · cases hy
  · unfold rdTake at hy
    split at hy
    · simp only [Option.some.injEq, Prod.mk.injEq] at hy
      obtain ⟨rfl, rfl⟩ := hy
      rw [List.length_take]
      omega
    · cases hy
theorem str_false : rdStr false = (rdInt 2 32768).bind fun n => (rdSpan n).bind fun s => .pure (.bytes s) := by
  unfold rdStr
  simp only [Bool.false_eq_true, if_false]
  congr 1
  funext n
  unfold rdSpan
  split
  · rfl
  · rfl
theorem str_true : rdStr true = rdUv.bind fun n => (rdSpan ((n : Int) - 1)).bind fun s => .pure (.bytes s) := by
  unfold rdStr
  simp only [if_true]
  congr 1
  funext n
  unfold rdSpan
  by_cases hn : n = 0
  · rw [if_pos hn, if_pos (by omega)]
    rfl
  · rw [if_neg hn, if_neg (by omega), show ((n : Int) - 1).toNat = n - 1 by omega]
set_option maxRecDepth 100000 in
set_option maxHeartbeats 1000000 in
theorem rString : RdC Tryz.prog 70 (rdStr false) (fun O w v g => LV O w false v .str g) (fun v => v = .string ⟨#[]⟩) := by
  intro O rb w st hO hlt h
  have C1 := Lib.hid (rInt16 O rb w st hO hlt h)
  clear h
  go_enter Tryz.func70, Tryz.ntmps70
  go_wp2_with fail
  refine C1.out.mono ?_
  rintro e w1 ⟨v, rfl, h1, hk1, hD, hV⟩
  clear C1
  rcases hx : st.bind (rdInt 2 32768) with _ | ⟨n, r⟩
  · obtain rfl := hD hx
    rw [hx] at h1
    have C2 := Lib.hid (rSpan O rb w1 none 0 hO (hlt_on hlt hk1) h1)
    have X := Lib.hid (And.intro hx hk1)
    clear hD hV h1 hx hlt hk1
    go_wp2_with fail
    refine C2.out.mono ?_
    rintro e w2 ⟨v, rfl, h2, hk2, hD, hV⟩
    obtain rfl := hD rfl
    have hcv := run_conv (RB.nil O w2)
    have Z := Lib.hid (And.intro h2 hk2)
    clear hD hV h2 hk2
    go_wp2
    go_ret
    refine .bad ?_ Z.out.1 (X.out.2.trans Z.out.2) rfl
    rw [str_false, bind_st, X.out.1]
    rfl
  · obtain rfl := hV _ _ hx
    rw [hx] at h1
    have C2 := Lib.hid (rSpan O rb w1 (some r) n hO (hlt_on hlt hk1) h1)
    have H1 := Lib.hid h1
    have hn := int_bounds (by omega) hx
    have X := Lib.hid (And.intro hx hk1)
    clear hD hV h1 hx hk1 hlt
    go_wp2_with fail
    refine C2.out.mono ?_
    rintro e w2 ⟨v, rfl, h2, hk2, hD, hV⟩
    rcases hy : rdSpan n r with _ | ⟨s, r2⟩
    · obtain rfl := hD hy
      have hcv := run_conv (RB.nil O w2)
      rw [show (some r).bind (rdSpan n) = none from hy] at h2
      have Z := Lib.hid (And.intro h2 (And.intro hk2 hy))
      clear hD hV h2 hk2 hy
      go_wp2
      go_ret
      refine .bad ?_ Z.out.1 (X.out.2.trans Z.out.2.1) rfl
      rw [str_false, bind_st, X.out.1]
      exact bind_none Z.out.2.2
    · have hcv := run_conv (hV _ _ hy)
      rw [show (some r).bind (rdSpan n) = some (s, r2) from hy] at h2
      have Z := Lib.hid (And.intro h2 (And.intro hk2 hy))
      clear hD hV h2 hk2 hy
      go_wp2
      go_ret
      have hst : st.bind (rdStr false) = some (.bytes s, r2) := by
        rw [str_false, bind_st, X.out.1]
        exact bind_eq Z.out.2.2
      obtain ⟨l1, l2⟩ := span_out H1.out Z.out.2.2
      refine ⟨_, rfl, by rw [hst]; exact Z.out.1, X.out.2.trans Z.out.2.1, fun h => by rw [hst] at h; (cases h), fun x r' h => ?_⟩
      rw [hst] at h
      cases h
      exact ⟨rfl, by simp [strMax]; omega⟩
set_option maxRecDepth 100000 in
set_option maxHeartbeats 1000000 in
theorem rCompactString : RdC Tryz.prog 69 (rdStr true) (fun O w v g => LV O w true v .str g) (fun v => v = .string ⟨#[]⟩) := by
  intro O rb w st hO hlt h
  have C1 := Lib.hid (rUvarint O rb w st hO hlt h)
  clear h
  go_enter Tryz.func69, Tryz.ntmps69
  go_wp2_with fail
  refine C1.out.mono ?_
  rintro e w1 ⟨v, rfl, h1, hk1, hD, hV⟩
  clear C1
  rcases hx : st.bind rdUv with _ | ⟨n, r⟩
  · obtain rfl := hD hx
    rw [hx] at h1
    have C2 := Lib.hid (rSpan O rb w1 none (-1) hO (hlt_on hlt hk1) h1)
    have X := Lib.hid (And.intro hx hk1)
    clear hD hV h1 hx hlt hk1
    go_wp2_with fail
    refine C2.out.mono ?_
    rintro e w2 ⟨v, rfl, h2, hk2, hD, hV⟩
    obtain rfl := hD rfl
    have hcv := run_conv (RB.nil O w2)
    have Z := Lib.hid (And.intro h2 hk2)
    clear hD hV h2 hk2
    go_wp2
    go_ret
    refine .bad ?_ Z.out.1 (X.out.2.trans Z.out.2) rfl
    rw [str_true, bind_st, X.out.1]
    rfl
  · obtain rfl := hV _ _ hx
    rw [hx] at h1
    have C2 := Lib.hid (rSpan O rb w1 (some r) ((n : Int) - 1) hO (hlt_on hlt hk1) h1)
    have H1 := Lib.hid h1
    have hn : n ≤ 4294967295 := by
      cases st with
      | none => cases hx
      | some bs => exact (out_uv hx).1
    have X := Lib.hid (And.intro hx hk1)
    clear hD hV h1 hx hk1 hlt
    go_wp2_with fail
    refine C2.out.mono ?_
    rintro e w2 ⟨v, rfl, h2, hk2, hD, hV⟩
    rcases hy : rdSpan ((n : Int) - 1) r with _ | ⟨s, r2⟩
    · obtain rfl := hD hy
      have hcv := run_conv (RB.nil O w2)
      rw [show (some r).bind (rdSpan ((n : Int) - 1)) = none from hy] at h2
      have Z := Lib.hid (And.intro h2 (And.intro hk2 hy))
      clear hD hV h2 hk2 hy
      go_wp2
      go_ret
      refine .bad ?_ Z.out.1 (X.out.2.trans Z.out.2.1) rfl
      rw [str_true, bind_st, X.out.1]
      exact bind_none Z.out.2.2
    · have hcv := run_conv (hV _ _ hy)
      rw [show (some r).bind (rdSpan ((n : Int) - 1)) = some (s, r2) from hy] at h2
      have Z := Lib.hid (And.intro h2 (And.intro hk2 hy))
      clear hD hV h2 hk2 hy
      go_wp2
      go_ret
      have hst : st.bind (rdStr true) = some (.bytes s, r2) := by
        rw [str_true, bind_st, X.out.1]
        exact bind_eq Z.out.2.2
      obtain ⟨l1, l2⟩ := span_out H1.out Z.out.2.2
      refine ⟨_, rfl, by rw [hst]; exact Z.out.1, X.out.2.trans Z.out.2.1, fun h => by rw [hst] at h; (cases h), fun x r' h => ?_⟩
      rw [hst] at h
      cases h
      exact ⟨rfl, by simp [strMax]; omega⟩
end Go.Proofs.YtmpilpgabelmiaaGreatDoor

/- The reader's texts that may be null, octets, counts, the end. -/
namespace Go.Proofs.YtmpilpgabelmiaaGreatDoor
open Go Go.RowKit
set_option linter.unusedVariables false

theorem nstr_false : rdNStr false = (rdInt 2 32768).bind fun n => if n < 0 then .pure .null else (rdSpan n).bind fun s => .pure (.bytes s) := by
  unfold rdNStr
  simp only [Bool.false_eq_true, if_false]
  congr 1
  funext n
  unfold rdSpan
  by_cases hn : n < 0
  · rw [if_pos hn, if_pos hn]
  · rw [if_neg hn, if_neg hn, if_neg hn]
theorem nstr_true : rdNStr true = rdUv.bind fun n => if (n : Int) - 1 < 0 then .pure .null else (rdSpan ((n : Int) - 1)).bind fun s => .pure (.bytes s) := by
  unfold rdNStr
  simp only [if_true]
  congr 1
  funext n
  unfold rdSpan
  by_cases hn : n = 0
  · rw [if_pos hn, if_pos (by omega)]
  · rw [if_neg hn, if_neg (by omega), if_neg (by omega), show ((n : Int) - 1).toNat = n - 1 by omega]
theorem bytes_false : rdBytes false = (rdInt 4 2147483648).bind fun n => if n = -1 then .pure (.bytes []) else (rdSpan n).bind fun s => .pure (.bytes s) := by
  unfold rdBytes
  simp only [Bool.false_eq_true, if_false]
  congr 1
  funext n
  unfold rdSpan
  by_cases hn : n = -1
  · rw [if_pos hn, if_pos hn]
  · rw [if_neg hn, if_neg hn]
    split
    · rfl
    · rfl
theorem bytes_true : rdBytes true = rdUv.bind fun n => if (n : Int) - 1 = -1 then .pure (.bytes []) else (rdSpan ((n : Int) - 1)).bind fun s => .pure (.bytes s) := by
  unfold rdBytes
  simp only [if_true]
  congr 1
  funext n
  unfold rdSpan
  by_cases hn : n = 0
  · rw [if_pos hn, if_pos (by omega)]
  · rw [if_neg hn, if_neg (by omega), if_neg (by omega), show ((n : Int) - 1).toNat = n - 1 by omega]
theorem Rdr.alloc {O : List Nat} {w : World} {rb : Nat} {st : Option (List UInt8)} (h : Rdr O w rb st) (o : Obj) : Rdr O (w.alloc o) rb st := h.other (O' := []) ((Keeps.refl [] w).alloc o) (by simp) (by simp)
theorem new_notin {O : List Nat} {w : World} (hlt : ∀ k, k ∈ O → k < w.heap.size) : w.heap.size ∉ O := fun h => Nat.lt_irrefl _ (hlt _ h)


theorem sgw64 (n : Int) : sg 9223372036854775808 n = Go.RowKit.wrap64 n := by
  unfold sg Go.RowKit.wrap64
  omega
set_option maxHeartbeats 1000000 in
theorem rInt64 : RdC Tryz.prog 59 (rdInt 8 9223372036854775808) (fun _ _ v n => v = .int .i64 n) (fun v => v = .int .i64 0) := by
  intro O rb w st hO hlt h
  have C1 := Lib.hid (rReadUint64 O rb w st hO hlt h)
  clear h
  go_enter Tryz.func59, Tryz.ntmps59
  go_wp2_with fail
  refine C1.out.mono ?_
  rintro e w1 ⟨v, rfl, h1, hk1, hD, hV⟩
  clear C1
  have e0 : st.bind (rdInt 8 9223372036854775808) = (st.bind (rdNat 8)).bind fun q => some (sg 9223372036854775808 q.1, q.2) := bind_st st (rdNat 8) _
  rcases hx : st.bind (rdNat 8) with _ | ⟨n, r⟩
  · obtain rfl := hD hx
    rw [hx] at h1 e0
    have X := Lib.hid (And.intro e0 (And.intro hk1 h1))
    clear hD hV h1 hx hlt hk1 e0
    go_wp2
    go_ret
    exact .bad X.out.1 X.out.2.2 X.out.2.1 rfl
  · obtain rfl := hV _ _ hx
    rw [hx] at h1 e0
    have X := Lib.hid (And.intro e0 (And.intro hk1 h1))
    clear hD hV h1 hx hlt hk1 e0
    go_wp2
    go_ret
    have hst : st.bind (rdInt 8 9223372036854775808) = some (sg 9223372036854775808 n, r) := X.out.1
    refine ⟨_, rfl, by rw [hst]; exact X.out.2.2, X.out.2.1, fun h => by rw [hst] at h; (cases h), fun x r' h => ?_⟩
    rw [hst] at h
    simp only [Option.some.injEq, Prod.mk.injEq] at h
    obtain ⟨rfl, rfl⟩ := h
    exact congrArg (Value.int .i64) (sgw64 n).symm
theorem sgw32 (n : Int) : sg 2147483648 n = Go.RowKit.wrap32 n := by
  unfold sg Go.RowKit.wrap32
  omega
theorem count_true : rdCount true = rdUv.bind fun n => .pure (Go.RowKit.wrap32 (Go.RowKit.wrap32 (n : Nat) - 1)) := by
  have h : rdCount true = rdUv.bind fun n : Nat => Pr.pure (sg 2147483648 (sg 2147483648 n - 1)) := if_pos rfl
  rw [h]
  exact congrArg (Pr.bind rdUv) (funext fun n => by rw [sgw32, sgw32])
theorem count_len (flex : Bool) (st : Option (List UInt8)) : st.bind (rdLen flex) = (st.bind (rdCount flex)).bind fun q => if (q.2.length : Int) < q.1 then none else some q := bind_st st (rdCount flex) _
set_option maxRecDepth 100000 in
set_option maxHeartbeats 1000000 in
theorem rArrayLen : RdC Tryz.prog 63 (rdLen false) (fun _ _ v n => v = .int .i32 n) (fun v => ∃ n, v = .int .i32 n) := by
  intro O rb w st hO hlt h
  have C1 := Lib.hid (rInt32 O rb w st hO hlt h)
  clear h
  go_enter Tryz.func63, Tryz.ntmps63
  go_wp2_with fail
  refine C1.out.mono ?_
  rintro e w1 ⟨v, rfl, h1, hk1, hD, hV⟩
  clear C1
  have ec : st.bind (rdCount false) = (st.bind (rdInt 4 2147483648)).bind fun q => some (q.1, q.2) := by
    unfold rdCount; simp only [Bool.false_eq_true, if_false]; cases st.bind (rdInt 4 2147483648) <;> rfl
  have e0 := count_len false st
  rw [ec] at e0
  rcases hx : st.bind (rdInt 4 2147483648) with _ | ⟨n, r⟩
  · obtain rfl := hD hx
    rw [hx] at h1 e0
    have hB : Blk w1 rb [.slice none 0 0, .bool true] 110 := h1
    have m0 := hB.cell_some (i := 0) rfl
    have X := Lib.hid (And.intro e0 (And.intro hk1 h1))
    clear hD hV h1 hx hlt hk1 e0 hB ec
    go_wp2
    go_ret
    exact .bad X.out.1 X.out.2.2 X.out.2.1 ⟨_, rfl⟩
  · obtain rfl := hV _ _ hx
    rw [hx] at h1 e0
    obtain ⟨sv, hB, ⟨a, cap, rfl, c1, c2, -⟩, hM⟩ := id h1
    have m0 := hB.cell_some (i := 0) rfl
    have m1 := hB.cell_some (i := 1) rfl
    have f0 := hB.frozen 0
    have f1 := hB.frozen 1
    have hv := int_bounds (by omega) hx
    change _ = if (r.length : Int) < n then none else some (n, r) at e0
    have F := Lib.hid (Rdr.fail (O := O) (T := 0) hB)
    by_cases ht : (r.length : Int) < n
    · rw [if_pos ht] at e0
      have X := Lib.hid (And.intro e0 (And.intro hk1 h1))
      clear hD hV h1 hx hlt hk1 e0 hB ec
      generalize r.length = k at *
      go_wp2
      go_ret
      exact .bad X.out.1 F.out.1 (X.out.2.1.trans F.out.2) ⟨_, rfl⟩
    · rw [if_neg ht] at e0
      have X := Lib.hid (And.intro e0 (And.intro hk1 h1))
      clear hD hV h1 hx hlt hk1 e0 hB ec F
      generalize r.length = k at *
      go_wp2
      go_ret
      have hst := X.out.1
      refine ⟨_, rfl, by rw [hst]; exact X.out.2.2, X.out.2.1, fun h => by rw [hst] at h; (cases h), fun x r' h => ?_⟩
      rw [hst] at h
      simp only [Option.some.injEq, Prod.mk.injEq] at h
      obtain ⟨rfl, rfl⟩ := h
      rfl
set_option maxRecDepth 100000 in
set_option maxHeartbeats 1000000 in
theorem rCompactArrayLen : RdC Tryz.prog 62 (rdLen true) (fun _ _ v n => v = .int .i32 n) (fun v => ∃ n, v = .int .i32 n) := by
  intro O rb w st hO hlt h
  have C1 := Lib.hid (rUvarint O rb w st hO hlt h)
  clear h
  go_enter Tryz.func62, Tryz.ntmps62
  go_wp2_with fail
  refine C1.out.mono ?_
  rintro e w1 ⟨v, rfl, h1, hk1, hD, hV⟩
  clear C1
  have ec : st.bind (rdCount true) = (st.bind rdUv).bind fun q => some ((Go.RowKit.wrap32 (Go.RowKit.wrap32 (q.1 : Nat) - 1)), q.2) := by
    rw [count_true]; exact bind_st st rdUv _
  have e0 := count_len true st
  rw [ec] at e0
  rcases hx : st.bind rdUv with _ | ⟨n, r⟩
  · obtain rfl := hD hx
    rw [hx] at h1 e0
    have hB : Blk w1 rb [.slice none 0 0, .bool true] 110 := h1
    have m0 := hB.cell_some (i := 0) rfl
    have X := Lib.hid (And.intro e0 (And.intro hk1 h1))
    clear hD hV h1 hx hlt hk1 e0 hB ec
    go_wp2
    go_ret
    exact .bad X.out.1 X.out.2.2 X.out.2.1 ⟨_, rfl⟩
  · obtain rfl := hV _ _ hx
    rw [hx] at h1 e0
    obtain ⟨sv, hB, ⟨a, cap, rfl, c1, c2, -⟩, hM⟩ := id h1
    have m0 := hB.cell_some (i := 0) rfl
    have m1 := hB.cell_some (i := 1) rfl
    have f0 := hB.frozen 0
    have f1 := hB.frozen 1
    have hn : n ≤ 4294967295 := by
      cases st with
      | none => cases hx
      | some bs => exact (out_uv hx).1
    have hv : -2147483648 ≤ Go.RowKit.wrap32 (Go.RowKit.wrap32 ((n : Nat) : Int) - 1) ∧ Go.RowKit.wrap32 (Go.RowKit.wrap32 ((n : Nat) : Int) - 1) < 2147483648 := by unfold Go.RowKit.wrap32; omega
    have hw : Go.RowKit.wrap64 (Go.RowKit.wrap32 (Go.RowKit.wrap32 ((n : Nat) : Int) - 1)) = Go.RowKit.wrap32 (Go.RowKit.wrap32 ((n : Nat) : Int) - 1) := by unfold Go.RowKit.wrap64; omega
    rw [Option.bind_some, Option.bind_some] at e0
    obtain ⟨m, hm⟩ : ∃ m, Go.RowKit.wrap32 (Go.RowKit.wrap32 ((n : Nat) : Int) - 1) = m := ⟨_, rfl⟩
    simp only [hm] at e0 hv hw
    have F := Lib.hid (Rdr.fail (O := O) (T := 0) hB)
    by_cases ht : (r.length : Int) < m
    · rw [if_pos ht] at e0
      have X := Lib.hid (And.intro e0 (And.intro hk1 h1))
      clear hD hV h1 hx hlt hk1 e0 hB ec
      generalize r.length = k at *
      go_wp2
      go_ret
      exact .bad X.out.1 F.out.1 (X.out.2.1.trans F.out.2) ⟨_, rfl⟩
    · rw [if_neg ht] at e0
      have X := Lib.hid (And.intro e0 (And.intro hk1 h1))
      clear hD hV h1 hx hlt hk1 e0 hB ec F
      generalize r.length = k at *
      go_wp2
      go_ret
      have hst := X.out.1
      refine ⟨_, rfl, by rw [hst]; exact X.out.2.2, X.out.2.1, fun h => by rw [hst] at h; (cases h), fun x r' h => ?_⟩
      rw [hst] at h
      simp only [Option.some.injEq, Prod.mk.injEq] at h
      obtain ⟨rfl, rfl⟩ := h
      exact congrArg (Value.int .i32) hm
set_option maxHeartbeats 1000000 in
theorem rOk (O : List Nat) (rb : Nat) (w : World) (st : Option (List UInt8)) (h : Rdr O w rb st) : Calls Tryz.prog 64 #[.pointer (some ⟨rb, 0, none⟩)] w fun e w' => e = .returned (.bool st.isSome) ∧ w = w' := by
  obtain ⟨sv, hB⟩ := h.blk
  have m1 := hB.cell_some (i := 1) rfl
  clear hB h
  cases st <;>
  · go_enter Tryz.func64, Tryz.ntmps64
    go_wp2
    go_ret
    exact ⟨rfl, rfl⟩
set_option maxHeartbeats 1000000 in
theorem rComplete (O : List Nat) (rb : Nat) (w : World) (st : Option (List UInt8)) (E : Value) (h : Rdr O w rb st) (hE : w.cell? ⟨1, 0, none⟩ = some E) : Calls Tryz.prog 65 #[.pointer (some ⟨rb, 0, none⟩)] w fun e w' => e = .returned (if st.isSome then .nilIface else E) ∧ w = w' := by
  obtain ⟨sv, hB⟩ := h.blk
  have m1 := hB.cell_some (i := 1) rfl
  clear hB h
  cases st <;>
  · go_enter Tryz.func65, Tryz.ntmps65
    go_wp2
    go_ret
    exact ⟨rfl, rfl⟩
end Go.Proofs.YtmpilpgabelmiaaGreatDoor
