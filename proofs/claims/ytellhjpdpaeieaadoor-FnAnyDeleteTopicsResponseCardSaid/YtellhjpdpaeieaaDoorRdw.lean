/- What is written is read again; what is read can be written. Plain functions over bytes: no program in sight. -/
import Derived.Test.YtellhjpdpaeieaaDoorRd
namespace Go.Proofs.YtellhjpdpaeieaaDoor

/-- Just the octets s are read, as v. -/
def Exact {α : Type} (s : List UInt8) (p : Pr α) (v : α) : Prop := ∀ x, p (s ++ x) = some (v, x)
theorem Exact.bind {α β : Type} {p : Pr α} {f : α → Pr β} {s s' : List UInt8} {v : α} {u : β} (h : Exact s p v) (k : Exact s' (f v) u) : Exact (s ++ s') (p.bind f) u := by
  intro x
  rw [List.append_assoc, bind_eq (h _)]
  exact k x
theorem Exact.pure {α : Type} (v : α) : Exact [] (Pr.pure v) v := fun _ => rfl
theorem Exact.bind_pure {α β : Type} {p : Pr α} {f : α → β} {s : List UInt8} {v : α} (h : Exact s p v) : Exact s (p.bind fun v => Pr.pure (f v)) (f v) := by
  have := Exact.bind (f := fun v => Pr.pure (f v)) h (Exact.pure (f v))
  rwa [List.append_nil] at this
theorem Exact.of_eq {α : Type} {s s' : List UInt8} {p : Pr α} {v : α} (h : Exact s p v) (e : s = s') : Exact s' p v := e ▸ h
theorem Exact.take (s : List UInt8) : Exact s (rdTake s.length) s := by
  intro x
  unfold rdTake
  simp
theorem Exact.take' {s : List UInt8} {n : Nat} (h : n = s.length) : Exact s (rdTake n) s := by subst h; exact Exact.take s

theorem bb_toNat (n : Int) : ((bb n).toNat : Int) = n % 256 := by
  unfold bb
  simp
  omega
theorem beNat1 (n : Int) : (beNat [bb n] : Int) = n % 256 := by
  have := bb_toNat n
  simp [beNat]
  omega
theorem beNat16 (n : Int) : (beNat (be16 n) : Int) = n % 65536 := by
  have h0 := bb_toNat n
  have h1 := bb_toNat (n / 256)
  simp only [beNat, be16, List.foldl_cons, List.foldl_nil]
  omega
theorem beNat32 (n : Int) : (beNat (be32 n) : Int) = n % 4294967296 := by
  have h0 := bb_toNat n
  have h1 := bb_toNat (n / 256)
  have h2 := bb_toNat (n / 65536)
  have h3 := bb_toNat (n / 16777216)
  simp only [beNat, be32, List.foldl_cons, List.foldl_nil]
  omega
theorem beNat64 (n : Int) : (beNat (be64 n) : Int) = n % 18446744073709551616 := by
  have h0 := bb_toNat n
  have h1 := bb_toNat (n / 256)
  have h2 := bb_toNat (n / 65536)
  have h3 := bb_toNat (n / 16777216)
  have h4 := bb_toNat (n / 4294967296)
  have h5 := bb_toNat (n / 1099511627776)
  have h6 := bb_toNat (n / 281474976710656)
  have h7 := bb_toNat (n / 72057594037927936)
  simp only [beNat, be64, List.foldl_cons, List.foldl_nil]
  omega
theorem beNat_lt : ∀ (l : List UInt8), beNat l < 256 ^ l.length := by
  intro l
  have h : ∀ (l : List UInt8) (a : Nat), l.foldl (fun a b => a * 256 + b.toNat) a < (a + 1) * 256 ^ l.length := by
    intro l
    induction l with
    | nil => intro a; simp
    | cons b l ih =>
      intro a
      have := ih (a * 256 + b.toNat)
      have hb : b.toNat < 256 := b.toNat_lt
      simp only [List.foldl_cons, List.length_cons, Nat.pow_succ]
      refine Nat.lt_of_lt_of_le this ?_
      rw [Nat.mul_comm (256 ^ l.length) 256, ← Nat.mul_assoc]
      exact Nat.mul_le_mul_right _ (by omega)
  have := h l 0
  simpa [beNat] using this
theorem Exact.int1 {n : Int} (h0 : -128 ≤ n) (h1 : n ≤ 127) : Exact [bb n] (rdInt 1 128) n := by
  have h := Exact.bind_pure (f := fun m : Nat => sg 128 m) (Exact.bind_pure (f := beNat) (Exact.take' (s := [bb n]) (n := 1) rfl))
  have e : sg 128 (beNat [bb n]) = n := by rw [beNat1]; unfold sg; omega
  rw [e] at h
  exact h
theorem Exact.int2 {n : Int} (h0 : -32768 ≤ n) (h1 : n ≤ 32767) : Exact (be16 n) (rdInt 2 32768) n := by
  have h := Exact.bind_pure (f := fun m : Nat => sg 32768 m) (Exact.bind_pure (f := beNat) (Exact.take' (s := be16 n) (n := 2) rfl))
  have e : sg 32768 (beNat (be16 n)) = n := by rw [beNat16]; unfold sg; omega
  rw [e] at h
  exact h
theorem Exact.int4 {n : Int} (h0 : -2147483648 ≤ n) (h1 : n ≤ 2147483647) : Exact (be32 n) (rdInt 4 2147483648) n := by
  have h := Exact.bind_pure (f := fun m : Nat => sg 2147483648 m) (Exact.bind_pure (f := beNat) (Exact.take' (s := be32 n) (n := 4) rfl))
  have e : sg 2147483648 (beNat (be32 n)) = n := by rw [beNat32]; unfold sg; omega
  rw [e] at h
  exact h
theorem Exact.int8 {n : Int} (h0 : -9223372036854775808 ≤ n) (h1 : n ≤ 9223372036854775807) : Exact (be64 n) (rdInt 8 9223372036854775808) n := by
  have h := Exact.bind_pure (f := fun m : Nat => sg 9223372036854775808 m) (Exact.bind_pure (f := beNat) (Exact.take' (s := be64 n) (n := 8) rfl))
  have e : sg 9223372036854775808 (beNat (be64 n)) = n := by rw [beNat64]; unfold sg; omega
  rw [e] at h
  exact h
theorem Exact.nat2 {n : Nat} (h1 : n ≤ 65535) : Exact (be16 n) (rdNat 2) n := by
  have h := Exact.bind_pure (f := beNat) (Exact.take' (s := be16 n) (n := 2) rfl)
  have e : beNat (be16 n) = n := by have := beNat16 n; omega
  rw [e] at h
  exact h
theorem Exact.uvF : ∀ (k n : Nat), n < 16 * 128 ^ k → Exact (Proofs.YtellhjpdpaeieaaDoor.uvF k n) (rdUvF k) n
  | 0, n, h => by
    intro x
    have e : (UInt8.ofNat n).toNat = n := by simp; omega
    have e2 : ((UInt8.ofNat n).toNat ≤ 15) := by omega
    simp only [Proofs.YtellhjpdpaeieaaDoor.uvF, rdUvF, List.cons_append, List.nil_append]
    rw [if_pos e2, e]
  | k + 1, n, h => by
    intro x
    unfold Proofs.YtellhjpdpaeieaaDoor.uvF
    split
    · rename_i hn
      have e : (UInt8.ofNat n).toNat = n := by simp; omega
      simp only [rdUvF, List.cons_append, List.nil_append]
      rw [e, if_pos hn]
    · rename_i hn
      have e : (UInt8.ofNat (n % 128 + 128)).toNat = n % 128 + 128 := by simp; omega
      simp only [rdUvF, List.cons_append]
      rw [e, if_neg (by omega), Exact.uvF k (n / 128) (by rw [Nat.pow_succ] at h; omega) x]
      simp only [Option.some.injEq, Prod.mk.injEq, and_true]
      omega
/-- More groups than are needed turn nothing. -/
theorem uvF_more : ∀ (k d n : Nat), n < 16 * 128 ^ k → Proofs.YtellhjpdpaeieaaDoor.uvF (k + d) n = Proofs.YtellhjpdpaeieaaDoor.uvF k n
  | 0, 0, n, _ => rfl
  | 0, d + 1, n, h => by
    have hn : n < 128 := by simp at h; omega
    rw [Nat.zero_add]
    simp only [Proofs.YtellhjpdpaeieaaDoor.uvF, if_pos hn]
  | k + 1, d, n, h => by
    rw [show k + 1 + d = (k + d) + 1 by omega]
    simp only [Proofs.YtellhjpdpaeieaaDoor.uvF]
    rw [uvF_more k d (n / 128) (by rw [Nat.pow_succ] at h; omega)]
theorem Exact.uv {n : Nat} (h : n ≤ 4294967295) : Exact (Proofs.YtellhjpdpaeieaaDoor.uv n) rdUv n := by
  have h4 : n < 16 * 128 ^ 4 := by omega
  have e : Proofs.YtellhjpdpaeieaaDoor.uv n = Proofs.YtellhjpdpaeieaaDoor.uvF 4 n := uvF_more 4 5 n h4
  rw [e]
  exact Exact.uvF 4 n h4

/-- What can be said of a kind, and told. -/
def wfLeaf (ver : Int) (flex : Bool) : Leaf → GV → Prop
  | .i8, .int n => -128 ≤ n ∧ n ≤ 127
  | .i16, .int n => -32768 ≤ n ∧ n ≤ 32767
  | .u16, .int n => 0 ≤ n ∧ n ≤ 65535
  | .i32, .int n => -2147483648 ≤ n ∧ n ≤ 2147483647
  | .i64, .int n => -9223372036854775808 ≤ n ∧ n ≤ 9223372036854775807
  | .bool, .bool _ => True
  | .uuid, .bytes b => b.length = 16
  | .str, .bytes b => b.length ≤ strMax flex
  | .nstr, .bytes b => b.length ≤ strMax flex
  | .nstr, .null => True
  | .nstrFrom _, .bytes b => b.length ≤ strMax flex
  | .nstrFrom m, .null => ¬ ver < m
  | .bytes, .bytes b => b.length ≤ 2147483646
  | _, _ => False
theorem Exact.lenS {flex : Bool} {b : List UInt8} (hb : b.length ≤ strMax flex) : Exact (Proofs.YtellhjpdpaeieaaDoor.lenS flex b.length ++ b) (rdStr flex) (.bytes b) := by
  cases flex
  · simp [strMax] at hb
    unfold rdStr Proofs.YtellhjpdpaeieaaDoor.lenS
    simp only [Bool.false_eq_true, if_false]
    refine Exact.bind (v := (b.length : Int)) (Exact.int2 (by omega) (by omega)) ?_
    rw [if_neg (by omega)]
    refine Exact.bind_pure (f := GV.bytes) (Exact.take' (by omega))
  · simp [strMax] at hb
    unfold rdStr Proofs.YtellhjpdpaeieaaDoor.lenS
    simp only [if_true]
    refine Exact.bind (v := b.length + 1) (Exact.uv (by omega)) ?_
    rw [if_neg (by omega)]
    refine Exact.bind_pure (f := GV.bytes) (Exact.take' (by omega))
theorem Exact.lenS' {flex : Bool} {b : List UInt8} (hb : b.length ≤ strMax flex) : Exact (Proofs.YtellhjpdpaeieaaDoor.lenS flex b.length ++ b) (rdNStr flex) (.bytes b) := by
  cases flex
  · simp [strMax] at hb
    unfold rdNStr Proofs.YtellhjpdpaeieaaDoor.lenS
    simp only [Bool.false_eq_true, if_false]
    refine Exact.bind (v := (b.length : Int)) (Exact.int2 (by omega) (by omega)) ?_
    rw [if_neg (by omega)]
    refine Exact.bind_pure (f := GV.bytes) (Exact.take' (by omega))
  · simp [strMax] at hb
    unfold rdNStr Proofs.YtellhjpdpaeieaaDoor.lenS
    simp only [if_true]
    refine Exact.bind (v := b.length + 1) (Exact.uv (by omega)) ?_
    rw [if_neg (by omega)]
    refine Exact.bind_pure (f := GV.bytes) (Exact.take' (by omega))
theorem Exact.nulS (flex : Bool) : Exact (Proofs.YtellhjpdpaeieaaDoor.nulS flex) (rdNStr flex) .null := by
  cases flex
  · unfold rdNStr Proofs.YtellhjpdpaeieaaDoor.nulS
    simp only [Bool.false_eq_true, if_false]
    have := Exact.bind (f := fun n : Int => if n < 0 then Pr.pure GV.null else (rdTake n.toNat).bind fun s => .pure (.bytes s)) (Exact.int2 (n := -1) (by omega) (by omega)) (Exact.pure GV.null)
    rwa [List.append_nil] at this
  · unfold rdNStr Proofs.YtellhjpdpaeieaaDoor.nulS
    simp only [if_true]
    have := Exact.bind (f := fun n : Nat => if n = 0 then Pr.pure GV.null else (rdTake (n - 1)).bind fun s => .pure (.bytes s)) (Exact.uv (n := 0) (by omega)) (Exact.pure GV.null)
    rwa [List.append_nil] at this
theorem Exact.lenB {flex : Bool} {b : List UInt8} (hb : b.length ≤ 2147483646) : Exact (Proofs.YtellhjpdpaeieaaDoor.lenB flex b.length ++ b) (rdBytes flex) (.bytes b) := by
  cases flex
  · unfold rdBytes Proofs.YtellhjpdpaeieaaDoor.lenB
    simp only [Bool.false_eq_true, if_false]
    refine Exact.bind (v := (b.length : Int)) (Exact.int4 (by omega) (by omega)) ?_
    rw [if_neg (by omega), if_neg (by omega)]
    refine Exact.bind_pure (f := GV.bytes) (Exact.take' (by omega))
  · unfold rdBytes Proofs.YtellhjpdpaeieaaDoor.lenB
    simp only [if_true]
    refine Exact.bind (v := b.length + 1) (Exact.uv (by omega)) ?_
    rw [if_neg (by omega)]
    refine Exact.bind_pure (f := GV.bytes) (Exact.take' (by omega))
theorem exact_leaf {ver : Int} {flex : Bool} {k : Leaf} {v : GV} (h : wfLeaf ver flex k v) : Exact (apLeaf ver flex k v) (rdLeaf ver flex k) v := by
  cases k <;> cases v <;> simp only [wfLeaf] at h <;> try exact h.elim
  · exact Exact.bind_pure (f := GV.int) (Exact.int1 h.1 h.2)
  · exact Exact.bind_pure (f := GV.int) (Exact.int2 h.1 h.2)
  · exact Exact.bind_pure (f := GV.int) (Exact.int4 h.1 h.2)
  · exact Exact.bind_pure (f := GV.int) (Exact.int8 h.1 h.2)
  · rename_i n
    obtain ⟨m, rfl⟩ := Int.eq_ofNat_of_zero_le h.1
    exact Exact.bind_pure (f := fun n : Nat => GV.int n) (Exact.nat2 (by omega))
  · rename_i b
    intro x
    cases b <;> rfl
  · exact Exact.bind_pure (f := GV.bytes) (Exact.take' h.symm)
  · exact Exact.lenS h
  · exact Exact.lenS' h
  · exact Exact.nulS flex
  · exact Exact.lenB h
  · rename_i m b
    by_cases hm : ver < m
    · have e : rdLeaf ver flex (.nstrFrom m) = rdStr flex := if_pos hm
      rw [e]
      exact Exact.lenS h
    · have e : rdLeaf ver flex (.nstrFrom m) = rdNStr flex := if_neg hm
      rw [e]
      exact Exact.lenS' h
  · rename_i m
    have e : rdLeaf ver flex (.nstrFrom m) = rdNStr flex := if_neg h
    have e2 : apLeaf ver flex (.nstrFrom m) .null = Proofs.YtellhjpdpaeieaaDoor.nulS flex := if_neg h
    rw [e, e2]
    exact Exact.nulS flex
theorem lenS_pos (flex : Bool) (n : Nat) : 1 ≤ (Proofs.YtellhjpdpaeieaaDoor.lenS flex n).length := by
  unfold Proofs.YtellhjpdpaeieaaDoor.lenS
  split
  · exact uv_pos _
  · simp [be16]
theorem nulS_pos (flex : Bool) : 1 ≤ (Proofs.YtellhjpdpaeieaaDoor.nulS flex).length := by
  unfold Proofs.YtellhjpdpaeieaaDoor.nulS
  split
  · exact uv_pos _
  · simp [be16]
theorem lenB_pos (flex : Bool) (n : Nat) : 1 ≤ (Proofs.YtellhjpdpaeieaaDoor.lenB flex n).length := by
  unfold Proofs.YtellhjpdpaeieaaDoor.lenB
  split
  · exact uv_pos _
  · simp [be32]
theorem nulB_pos (flex : Bool) : 1 ≤ (Proofs.YtellhjpdpaeieaaDoor.nulB flex).length := by
  unfold Proofs.YtellhjpdpaeieaaDoor.nulB
  split
  · exact uv_pos _
  · simp [be32]
theorem leaf_pos {ver : Int} {flex : Bool} {k : Leaf} {v : GV} (h : wfLeaf ver flex k v) : 1 ≤ (apLeaf ver flex k v).length := by
  have h1 := lenS_pos flex
  have h2 := nulS_pos flex
  have h3 := lenB_pos flex
  cases k <;> cases v <;> simp only [wfLeaf] at h <;> try exact h.elim
  all_goals simp only [apLeaf]
  all_goals first
    | (simp [be16, be32, be64]; done)
    | omega
    | (rename_i b; have := h1 b.length; simp only [List.length_append]; omega)
    | (rename_i b; have := h3 b.length; simp only [List.length_append]; omega)
    | (rw [if_neg h]; omega)

/-- Rising numbers, each once. -/
def rising : List (Nat × List UInt8) → Prop
  | [] => True
  | [_] => True
  | a :: b :: r => a.1 < b.1 ∧ rising (b :: r)
/-- What can be said of a part, and told. -/
def WF (ver : Int) (flex : Bool) : Sch → GV → Prop
  | .leaf k, v => wfLeaf ver flex k v
  | .list _ _ e, .list l => l.length ≤ 2147483646 ∧ ∀ v ∈ l, WF ver flex e v
  | .list nul _ _, .null => nullAt nul ver = true
  | .opt _, .null => True
  | .opt e, v => WF ver flex e v
  | .done, .unit => True
  | .tags _, .tags l => rising l ∧ l.length ≤ 2147483646 ∧ (∀ t ∈ l, t.1 ≤ 4294967295 ∧ t.2.length ≤ 2147483646) ∧ (flex = false → l = [])
  | .cons _ lo hi f rest, .cons v vs => (hasV lo hi ver = true → WF ver flex f v) ∧ WF ver flex rest vs
  | _, _ => False
/-- Each thing of a part has an octet at least. -/
def posS (ver : Int) (flex : Bool) : Sch → Bool
  | .leaf _ => true
  | .list _ _ _ => true
  | .opt _ => true
  | .done => false
  | .tags _ => flex
  | .cons _ lo hi f rest => (hasV lo hi ver && posS ver flex f) || posS ver flex rest
/-- The things of all lists have an octet at least; a part that may be null is a part. -/
def okS (ver : Int) (flex : Bool) : Sch → Bool
  | .leaf _ => true
  | .list _ _ e => posS ver flex e && okS ver flex e
  | .opt e => (match e with | .cons .. => true | .tags _ => true | _ => false) && okS ver flex e
  | .done => true
  | .tags _ => true
  | .cons _ lo hi f rest => (!hasV lo hi ver || okS ver flex f) && okS ver flex rest
theorem ap_pos {ver : Int} {flex : Bool} : ∀ (s : Sch) (v : GV), posS ver flex s = true → WF ver flex s v → 1 ≤ (ap ver flex s v).length
  | .leaf k, v, _, h => leaf_pos h
  | .list nul z e, v, _, h => by
    have h3 := lenB_pos flex
    have h4 := nulB_pos flex
    cases v <;> simp only [WF] at h <;> try exact h.elim
    · simp only [ap]; omega
    · rename_i l
      have := h3 l.length
      simp only [ap, List.length_append]
      omega
  | .opt e, v, _, h => by
    cases v <;> simp [ap]
  | .done, _, h, _ => by cases h
  | .tags _, v, h, k => by
    cases v <;> simp only [WF] at k <;> try exact k.elim
    rename_i l
    have := uv_pos l.length
    simp only [posS] at h
    subst h
    simp only [ap, if_true, List.length_append]
    omega
  | .cons _ lo hi f rest, v, h, k => by
    cases v <;> simp only [WF] at k <;> try exact k.elim
    rename_i v vs
    simp only [posS, Bool.or_eq_true, Bool.and_eq_true] at h
    simp only [ap, List.length_append]
    rcases h with ⟨h1, h2⟩ | h
    · have := ap_pos f v h2 (k.1 h1)
      rw [if_pos h1]
      omega
    · have := ap_pos rest vs h k.2
      omega
theorem Exact.count {flex : Bool} {n : Nat} (h : n ≤ 2147483646) : Exact (Proofs.YtellhjpdpaeieaaDoor.lenB flex n) (rdCount flex) (n : Int) := by
  unfold rdCount Proofs.YtellhjpdpaeieaaDoor.lenB
  cases flex
  · simp only [Bool.false_eq_true, if_false]
    exact Exact.int4 (by omega) (by omega)
  · simp only [if_true]
    have h := Exact.bind_pure (f := fun n : Nat => sg 2147483648 (sg 2147483648 n - 1)) (Exact.uv (n := n + 1) (by omega))
    have e : sg 2147483648 (sg 2147483648 ((n + 1 : Nat) : Int) - 1) = n := by unfold sg; omega
    rwa [e] at h
theorem Exact.countNul {flex : Bool} : Exact (Proofs.YtellhjpdpaeieaaDoor.nulB flex) (rdCount flex) (-1) := by
  unfold rdCount Proofs.YtellhjpdpaeieaaDoor.nulB
  cases flex
  · simp only [Bool.false_eq_true, if_false]
    exact Exact.int4 (by omega) (by omega)
  · simp only [if_true]
    have h := Exact.bind_pure (f := fun n : Nat => sg 2147483648 (sg 2147483648 n - 1)) (Exact.uv (n := 0) (by omega))
    have e : sg 2147483648 (sg 2147483648 ((0 : Nat) : Int) - 1) = -1 := by unfold sg; omega
    rwa [e] at h
theorem exact_list {α : Type} {flex : Bool} {n : Nat} (hn : n ≤ 2147483646) {s : List UInt8} (hs : n ≤ s.length) {f : Int → Pr α} {u : α} (k : Exact s (f n) u) : Exact (Proofs.YtellhjpdpaeieaaDoor.lenB flex n ++ s) ((rdLen flex).bind f) u := by
  intro x
  have h : rdLen flex (Proofs.YtellhjpdpaeieaaDoor.lenB flex n ++ (s ++ x)) = some ((n : Int), s ++ x) := by
    unfold rdLen
    rw [bind_eq (Exact.count hn _)]
    rw [if_neg (by simp; omega)]
  rw [List.append_assoc, bind_eq h]
  exact k x
theorem exact_listNul {α : Type} {flex : Bool} {f : Int → Pr α} {u : α} (k : Exact [] (f (-1)) u) : Exact (Proofs.YtellhjpdpaeieaaDoor.nulB flex) ((rdLen flex).bind f) u := by
  intro x
  have h : rdLen flex (Proofs.YtellhjpdpaeieaaDoor.nulB flex ++ x) = some (-1, x) := by
    unfold rdLen
    rw [bind_eq (Exact.countNul _)]
    rw [if_neg (by omega)]
  rw [bind_eq h]
  exact k x
theorem exact_tag {t : Nat × List UInt8} (h : t.1 ≤ 4294967295 ∧ t.2.length ≤ 2147483646) : Exact (Proofs.YtellhjpdpaeieaaDoor.uv t.1 ++ Proofs.YtellhjpdpaeieaaDoor.uv t.2.length ++ t.2) rdTag1 t := by
  rw [List.append_assoc]
  refine Exact.bind (Exact.uv h.1) ?_
  refine Exact.bind (Exact.uv (by omega)) ?_
  exact Exact.bind_pure (f := fun v => (t.1, v)) (Exact.take t.2)
theorem exact_many_tags : ∀ (l : List (Nat × List UInt8)), (∀ t ∈ l, t.1 ≤ 4294967295 ∧ t.2.length ≤ 2147483646) → Exact (apTags l) (rdMany rdTag1 l.length) l
  | [], _ => Exact.pure []
  | t :: l, h => by
    have h1 := exact_tag (h t (List.mem_cons_self ..))
    have h2 := exact_many_tags l (fun t ht => h t (List.mem_cons_of_mem _ ht))
    have := Exact.bind (f := fun v => (rdMany rdTag1 l.length).bind fun l => Pr.pure (v :: l)) h1 (Exact.bind_pure (f := fun l => t :: l) h2)
    exact this.of_eq (by simp [apTags])
theorem tagIns_last : ∀ (l : List (Nat × List UInt8)) (t : Nat × List UInt8), (∀ u ∈ l, u.1 < t.1) → tagIns t.1 t.2 l = l ++ [t]
  | [], t, _ => rfl
  | a :: l, t, h => by
    have ha := h a (List.mem_cons_self ..)
    obtain ⟨j, u⟩ := a
    simp only [tagIns]
    rw [if_neg (by simp at ha; omega), if_neg (by simp at ha; omega), tagIns_last l t (fun u hu => h u (List.mem_cons_of_mem _ hu))]
    rfl
theorem rising_tail {a : Nat × List UInt8} {l : List (Nat × List UInt8)} (h : rising (a :: l)) : rising l ∧ ∀ u ∈ l, a.1 < u.1 := by
  induction l generalizing a with
  | nil => exact ⟨trivial, fun u hu => by cases hu⟩
  | cons b r ih =>
    obtain ⟨h1, h2⟩ := h
    refine ⟨h2, fun u hu => ?_⟩
    rcases List.mem_cons.1 hu with rfl | hu
    · exact h1
    · have := (ih h2).2 u hu
      omega
theorem foldl_ins : ∀ (l acc : List (Nat × List UInt8)), rising l → (∀ a ∈ acc, ∀ u ∈ l, a.1 < u.1) → l.foldl (fun acc t => tagIns t.1 t.2 acc) acc = acc ++ l
  | [], acc, _, _ => by simp
  | t :: l, acc, h, k => by
    simp only [List.foldl_cons]
    rw [tagIns_last acc t (fun u hu => k u hu t (List.mem_cons_self ..)), foldl_ins l _ (rising_tail h).1 ?_]
    · simp
    · intro a ha u hu
      rcases List.mem_append.1 ha with ha | ha
      · exact k a ha u (List.mem_cons_of_mem _ hu)
      · rw [List.mem_singleton.1 ha]
        exact (rising_tail h).2 u hu
theorem tagSort_rising {l : List (Nat × List UInt8)} (h : rising l) : tagSort l = l := by
  unfold tagSort
  rw [foldl_ins l [] h (fun a ha => by cases ha)]
  rfl
theorem exact_tags {flex : Bool} {l : List (Nat × List UInt8)} (h : rising l) (hl : l.length ≤ 2147483646) (hb : ∀ t ∈ l, t.1 ≤ 4294967295 ∧ t.2.length ≤ 2147483646) (hf : flex = false → l = []) :
    Exact (if flex then Proofs.YtellhjpdpaeieaaDoor.uv l.length ++ apTags l else []) (rdTags flex) (.tags l) := by
  cases flex
  · rw [hf rfl]
    exact Exact.pure _
  · simp only [if_true, rdTags]
    have := Exact.bind_pure (f := fun l => GV.tags (tagSort l)) (Exact.bind (f := fun n => rdMany rdTag1 n) (Exact.uv (n := l.length) (by omega)) (exact_many_tags l hb))
    rw [tagSort_rising h] at this
    exact this
theorem exact_many {ver : Int} {flex : Bool} {e : Sch} (l : List GV) (h : ∀ v ∈ l, ∃ v', WF ver flex e v' ∧ ap ver flex e v' = ap ver flex e v ∧ Exact (ap ver flex e v) (rd ver flex e) v') :
    ∃ l', l'.length = l.length ∧ (∀ v ∈ l', WF ver flex e v) ∧ l'.flatMap (ap ver flex e) = l.flatMap (ap ver flex e) ∧ Exact (l.flatMap (ap ver flex e)) (rdMany (rd ver flex e) l.length) l' := by
  induction l with
  | nil => exact ⟨[], rfl, (fun v hv => nomatch hv), rfl, Exact.pure []⟩
  | cons v l ih =>
    obtain ⟨v', w1, e1, x1⟩ := h v (List.mem_cons_self ..)
    obtain ⟨l', n2, w2, e2, x2⟩ := ih fun v hv => h v (List.mem_cons_of_mem _ hv)
    refine ⟨v' :: l', by simp [n2], ?_, by simp [e1, e2], ?_⟩
    · intro u hu
      rcases List.mem_cons.1 hu with rfl | hu
      · exact w1
      · exact w2 u hu
    · have := Exact.bind (f := fun v => (rdMany (rd ver flex e) l.length).bind fun l => Pr.pure (v :: l)) x1 (Exact.bind_pure (f := fun l => v' :: l) x2)
      exact this
theorem sum_pos {ver : Int} {flex : Bool} {e : Sch} (hp : posS ver flex e = true) : ∀ (l : List GV), (∀ v ∈ l, WF ver flex e v) → l.length ≤ (l.flatMap (ap ver flex e)).length
  | [], _ => by simp
  | v :: l, h => by
    have h1 := ap_pos e v hp (h v (List.mem_cons_self ..))
    have h2 := sum_pos hp l (fun v hv => h v (List.mem_cons_of_mem _ hv))
    simp only [List.flatMap_cons, List.length_append, List.length_cons]
    omega
/-- What is written is read again, and written as the same. -/
theorem rd_ap (ver : Int) (flex : Bool) : ∀ (s : Sch) (v : GV), okS ver flex s = true → WF ver flex s v → ∃ v', WF ver flex s v' ∧ ap ver flex s v' = ap ver flex s v ∧ Exact (ap ver flex s v) (rd ver flex s) v'
  | .leaf k, v, _, h => ⟨v, h, rfl, exact_leaf h⟩
  | .list nul z e, v, hk, h => by
    simp only [okS, Bool.and_eq_true] at hk
    cases v <;> simp only [WF] at h <;> try exact h.elim
    · refine ⟨.null, h, rfl, ?_⟩
      unfold rd
      simp only [ap]
      refine exact_listNul ?_
      rw [if_pos ⟨by omega, h⟩]
      exact Exact.pure _
    · rename_i l
      obtain ⟨l', n2, w2, e2, x2⟩ := exact_many l (fun v hv => rd_ap ver flex e v hk.2 (h.2 v hv))
      refine ⟨.list l', ⟨by omega, w2⟩, by simp only [ap]; rw [n2, e2], ?_⟩
      unfold rd
      simp only [ap]
      refine exact_list h.1 (sum_pos hk.1 l h.2) ?_
      rw [if_neg (by omega)]
      exact Exact.bind_pure (f := GV.list) (by rwa [Int.toNat_natCast])
  | .opt e, v, hk, h => by
    simp only [okS, Bool.and_eq_true] at hk
    by_cases hv : v = .null
    · subst hv
      refine ⟨.null, trivial, rfl, ?_⟩
      unfold rd
      have := Exact.bind (f := fun n : Int => if n = -1 then Pr.pure GV.null else rd ver flex e) (Exact.int1 (n := -1) (by omega) (by omega)) (Exact.pure GV.null)
      exact this
    · have hw : WF ver flex e v := by cases v <;> first | exact absurd rfl hv | exact h
      obtain ⟨v', w1, e1, x1⟩ := rd_ap ver flex e v hk.2 hw
      have hv' : v' ≠ .null := by
        rintro rfl
        cases e <;> simp [WF] at w1 hk
      refine ⟨v', ?_, ?_, ?_⟩
      · cases v' <;> first | exact absurd rfl hv' | exact w1
      · have a1 : ap ver flex (.opt e) v' = 1 :: ap ver flex e v' := by cases v' <;> first | exact absurd rfl hv' | rfl
        have a2 : ap ver flex (.opt e) v = 1 :: ap ver flex e v := by cases v <;> first | exact absurd rfl hv | rfl
        rw [a1, a2, e1]
      · have a2 : ap ver flex (.opt e) v = 1 :: ap ver flex e v := by cases v <;> first | exact absurd rfl hv | rfl
        rw [a2]
        unfold rd
        have := Exact.bind (f := fun n : Int => if n = -1 then Pr.pure GV.null else rd ver flex e) (Exact.int1 (n := 1) (by omega) (by omega)) x1
        exact this
  | .done, v, _, h => by
    cases v <;> simp only [WF] at h <;> try exact h.elim
    exact ⟨.unit, trivial, rfl, Exact.pure _⟩
  | .tags off, v, _, h => by
    cases v <;> simp only [WF] at h <;> try exact h.elim
    rename_i l
    exact ⟨.tags l, h, rfl, exact_tags h.1 h.2.1 h.2.2.1 h.2.2.2⟩
  | .cons off lo hi f rest, v, hk, h => by
    simp only [okS, Bool.and_eq_true, Bool.or_eq_true, Bool.not_eq_true'] at hk
    cases v <;> simp only [WF] at h <;> try exact h.elim
    rename_i v vs
    obtain ⟨vs', w2, e2, x2⟩ := rd_ap ver flex rest vs hk.2 h.2
    by_cases hv : hasV lo hi ver = true
    · obtain ⟨v', w1, e1, x1⟩ := rd_ap ver flex f v (hk.1.resolve_left (by rw [hv]; exact fun h => by cases h)) (h.1 hv)
      refine ⟨.cons v' vs', ⟨fun _ => w1, w2⟩, by simp only [ap, e1, e2], ?_⟩
      unfold rd
      simp only [ap, hv, if_true]
      exact Exact.bind x1 (Exact.bind_pure (f := fun vs => GV.cons v' vs) x2)
    · refine ⟨.cons .unit vs', ⟨fun h => absurd h hv, w2⟩, by simp only [ap, e2, if_neg hv], ?_⟩
      unfold rd
      simp only [ap, if_neg hv, List.nil_append]
      exact Exact.bind_pure (f := fun vs => GV.cons .unit vs) x2
/-- What ends ahead of its end is not read. -/
theorem cut_none {α : Type} {p : Pr α} (hm : Mono p) {s : List UInt8} {v : α} (h : Exact s p v) {n : Nat} (hn : n < s.length) : p (s.take n) = none := by
  cases hp : p (s.take n) with
  | none => rfl
  | some q =>
    obtain ⟨u, r⟩ := q
    have h1 := hm _ _ _ (s.drop n) hp
    rw [List.take_append_drop] at h1
    have h2 := h []
    rw [List.append_nil, h1] at h2
    simp only [Option.some.injEq, Prod.mk.injEq, List.append_eq_nil_iff, List.drop_eq_nil_iff] at h2
    omega
end Go.Proofs.YtellhjpdpaeieaaDoor
