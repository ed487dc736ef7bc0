/- What is read can be written, in as many octets at the most. Plain functions over bytes: no program in sight. -/
import Derived.Test.YtellhjpdpaeieaaDoorRdw
namespace Go.Proofs.YtellhjpdpaeieaaDoor

theorem out_take {n : Nat} {bs l r : List UInt8} (h : rdTake n bs = some (l, r)) : l.length = n ∧ n + r.length = bs.length := by
  unfold rdTake at h
  split at h
  · simp only [Option.some.injEq, Prod.mk.injEq] at h
    obtain ⟨rfl, rfl⟩ := h
    simp
    omega
  · cases h
theorem pure_some {α : Type} {v u : α} {bs r : List UInt8} (h : Pr.pure v bs = some (u, r)) : v = u ∧ bs = r := by
  simpa [Pr.pure] using h
theorem out_nat {k n : Nat} {bs r : List UInt8} (h : rdNat k bs = some (n, r)) : n < 256 ^ k ∧ k + r.length = bs.length := by
  obtain ⟨l, r', h1, h2⟩ := bind_some h
  obtain ⟨rfl, rfl⟩ := pure_some h2
  obtain ⟨e1, e2⟩ := out_take h1
  have := beNat_lt l
  rw [e1] at this
  exact ⟨this, e2⟩
theorem out_int {k : Nat} {m n : Int} {bs r : List UInt8} (hm : 0 < m) (h : rdInt k m bs = some (n, r)) : -m ≤ n ∧ n < m ∧ k + r.length = bs.length := by
  obtain ⟨l, r', h1, h2⟩ := bind_some h
  obtain ⟨rfl, rfl⟩ := pure_some h2
  obtain ⟨e1, e2⟩ := out_nat h1
  have h3 := Int.emod_nonneg ((l : Int) + m) (b := 2 * m) (by omega)
  have h4 := Int.emod_lt_of_pos ((l : Int) + m) (b := 2 * m) (by omega)
  refine ⟨?_, ?_, e2⟩ <;> (unfold sg; omega)
theorem out_uvF : ∀ {k n : Nat} {bs r : List UInt8}, rdUvF k bs = some (n, r) → n < 16 * 128 ^ k ∧ (Proofs.YtellhjpdpaeieaaDoor.uvF k n).length + r.length ≤ bs.length
  | 0, n, bs, r, h => by
    cases bs with
    | nil => cases h
    | cons b l =>
      simp only [rdUvF] at h
      split at h
      · rename_i hb
        simp only [Option.some.injEq, Prod.mk.injEq] at h
        obtain ⟨rfl, rfl⟩ := h
        simp [Proofs.YtellhjpdpaeieaaDoor.uvF]
        omega
      · cases h
  | k + 1, n, bs, r, h => by
    cases bs with
    | nil => cases h
    | cons b l =>
      simp only [rdUvF] at h
      split at h
      · rename_i hb
        simp only [Option.some.injEq, Prod.mk.injEq] at h
        obtain ⟨rfl, rfl⟩ := h
        have hp : 0 < 128 ^ (k + 1) := Nat.pow_pos (by omega)
        simp only [Proofs.YtellhjpdpaeieaaDoor.uvF, if_pos hb, List.length_cons, List.length_nil]
        rw [Nat.pow_succ] at *
        omega
      · cases hr : rdUvF k l with
        | none => rw [hr] at h; cases h
        | some q =>
          obtain ⟨m, r'⟩ := q
          rw [hr] at h
          simp only [Option.some.injEq, Prod.mk.injEq] at h
          obtain ⟨rfl, rfl⟩ := h
          obtain ⟨h1, h2⟩ := out_uvF hr
          have e : (b.toNat % 128 + 128 * m) / 128 = m := by omega
          refine ⟨by rw [Nat.pow_succ]; omega, ?_⟩
          simp only [Proofs.YtellhjpdpaeieaaDoor.uvF, e]
          split
          · simp only [List.length_cons, List.length_nil]
            have := (uvF_length k m).2
            omega
          · simp only [List.length_cons]
            omega
theorem out_uv {n : Nat} {bs r : List UInt8} (h : rdUv bs = some (n, r)) : n ≤ 4294967295 ∧ (Proofs.YtellhjpdpaeieaaDoor.uv n).length + r.length ≤ bs.length := by
  obtain ⟨h1, h2⟩ := out_uvF h
  refine ⟨by omega, ?_⟩
  have e : Proofs.YtellhjpdpaeieaaDoor.uv n = Proofs.YtellhjpdpaeieaaDoor.uvF 4 n := uvF_more 4 5 n h1
  rw [e]
  exact h2
theorem uvF_mono : ∀ (k n m : Nat), n ≤ m → (Proofs.YtellhjpdpaeieaaDoor.uvF k n).length ≤ (Proofs.YtellhjpdpaeieaaDoor.uvF k m).length
  | 0, _, _, _ => by simp [Proofs.YtellhjpdpaeieaaDoor.uvF]
  | k + 1, n, m, h => by
    simp only [Proofs.YtellhjpdpaeieaaDoor.uvF]
    split
    · split
      · simp
      · have := (uvF_length k (m / 128)).2
        simp only [List.length_cons, List.length_nil]
        omega
    · rw [if_neg (by omega)]
      have := uvF_mono k (n / 128) (m / 128) (by omega)
      simp only [List.length_cons]
      omega
theorem uv_mono {n m : Nat} (h : n ≤ m) : (Proofs.YtellhjpdpaeieaaDoor.uv n).length ≤ (Proofs.YtellhjpdpaeieaaDoor.uv m).length := uvF_mono 9 n m h
theorem uv0_length : (Proofs.YtellhjpdpaeieaaDoor.uv 0).length = 1 := by decide
theorem uv1_length : (Proofs.YtellhjpdpaeieaaDoor.uv 1).length = 1 := by decide

def M : Nat := 2147483646
theorem out_str {flex : Bool} {bs r : List UInt8} {v : GV} (hb : bs.length ≤ M) (h : rdStr flex bs = some (v, r)) : ∃ s, v = .bytes s ∧ s.length ≤ strMax flex ∧ (lenS flex s.length ++ s).length + r.length ≤ bs.length := by
  unfold M at hb
  cases flex
  · simp only [rdStr, Bool.false_eq_true, if_false] at h
    obtain ⟨n, r1, h1, h2⟩ := bind_some h
    obtain ⟨e1, e2, e3⟩ := out_int (by omega) h1
    split at h2
    · cases h2
    · obtain ⟨s, r2, h3, h4⟩ := bind_some h2
      obtain ⟨rfl, rfl⟩ := pure_some h4
      obtain ⟨g1, g2⟩ := out_take h3
      refine ⟨s, rfl, by simp [strMax]; omega, ?_⟩
      simp [lenS, be16_length]
      omega
  · simp only [rdStr, if_true] at h
    obtain ⟨n, r1, h1, h2⟩ := bind_some h
    obtain ⟨e1, e2⟩ := out_uv h1
    split at h2
    · cases h2
    · obtain ⟨s, r2, h3, h4⟩ := bind_some h2
      obtain ⟨rfl, rfl⟩ := pure_some h4
      obtain ⟨g1, g2⟩ := out_take h3
      refine ⟨s, rfl, by simp [strMax]; omega, ?_⟩
      simp only [lenS, if_true, List.length_append]
      rw [g1, show n - 1 + 1 = n by omega]
      omega
theorem out_nstr {flex : Bool} {bs r : List UInt8} {v : GV} (hb : bs.length ≤ M) (h : rdNStr flex bs = some (v, r)) :
    (v = .null ∧ (nulS flex).length + r.length ≤ bs.length) ∨ ∃ s, v = .bytes s ∧ s.length ≤ strMax flex ∧ (lenS flex s.length ++ s).length + r.length ≤ bs.length := by
  unfold M at hb
  cases flex
  · simp only [rdNStr, Bool.false_eq_true, if_false] at h
    obtain ⟨n, r1, h1, h2⟩ := bind_some h
    obtain ⟨e1, e2, e3⟩ := out_int (by omega) h1
    split at h2
    · obtain ⟨rfl, rfl⟩ := pure_some h2
      exact .inl ⟨rfl, by simp [nulS, be16_length]; omega⟩
    · obtain ⟨s, r2, h3, h4⟩ := bind_some h2
      obtain ⟨rfl, rfl⟩ := pure_some h4
      obtain ⟨g1, g2⟩ := out_take h3
      refine .inr ⟨s, rfl, by simp [strMax]; omega, ?_⟩
      simp [lenS, be16_length]
      omega
  · simp only [rdNStr, if_true] at h
    obtain ⟨n, r1, h1, h2⟩ := bind_some h
    obtain ⟨e1, e2⟩ := out_uv h1
    split at h2
    · obtain ⟨rfl, rfl⟩ := pure_some h2
      subst n
      exact .inl ⟨rfl, by simpa [nulS] using e2⟩
    · obtain ⟨s, r2, h3, h4⟩ := bind_some h2
      obtain ⟨rfl, rfl⟩ := pure_some h4
      obtain ⟨g1, g2⟩ := out_take h3
      refine .inr ⟨s, rfl, by simp [strMax]; omega, ?_⟩
      simp only [lenS, if_true, List.length_append]
      rw [g1, show n - 1 + 1 = n by omega]
      omega
theorem out_bytes {flex : Bool} {bs r : List UInt8} {v : GV} (hb : bs.length ≤ M) (h : rdBytes flex bs = some (v, r)) : ∃ s, v = .bytes s ∧ s.length ≤ 2147483646 ∧ (lenB flex s.length ++ s).length + r.length ≤ bs.length := by
  unfold M at hb
  cases flex
  · simp only [rdBytes, Bool.false_eq_true, if_false] at h
    obtain ⟨n, r1, h1, h2⟩ := bind_some h
    obtain ⟨e1, e2, e3⟩ := out_int (by omega) h1
    split at h2
    · obtain ⟨rfl, rfl⟩ := pure_some h2
      exact ⟨[], rfl, by simp, by simp [lenB, be32_length]; omega⟩
    · split at h2
      · cases h2
      · obtain ⟨s, r2, h3, h4⟩ := bind_some h2
        obtain ⟨rfl, rfl⟩ := pure_some h4
        obtain ⟨g1, g2⟩ := out_take h3
        refine ⟨s, rfl, by omega, ?_⟩
        simp [lenB, be32_length]
        omega
  · simp only [rdBytes, if_true] at h
    obtain ⟨n, r1, h1, h2⟩ := bind_some h
    obtain ⟨e1, e2⟩ := out_uv h1
    split at h2
    · obtain ⟨rfl, rfl⟩ := pure_some h2
      subst n
      rw [uv0_length] at e2
      exact ⟨[], rfl, by simp, by simp [lenB, uv1_length]; omega⟩
    · obtain ⟨s, r2, h3, h4⟩ := bind_some h2
      obtain ⟨rfl, rfl⟩ := pure_some h4
      obtain ⟨g1, g2⟩ := out_take h3
      refine ⟨s, rfl, by omega, ?_⟩
      simp only [lenB, if_true, List.length_append]
      rw [g1, show n - 1 + 1 = n by omega]
      omega
theorem out_leaf {ver : Int} {flex : Bool} {k : Leaf} {bs r : List UInt8} {v : GV} (hb : bs.length ≤ M) (h : rdLeaf ver flex k bs = some (v, r)) : wfLeaf ver flex k v ∧ (apLeaf ver flex k v).length + r.length ≤ bs.length := by
  cases k <;> simp only [rdLeaf] at h
  case i8 =>
    obtain ⟨n, r1, h1, h2⟩ := bind_some h
    obtain ⟨rfl, rfl⟩ := pure_some h2
    obtain ⟨e1, e2, e3⟩ := out_int (by omega) h1
    exact ⟨⟨by omega, by omega⟩, by simp [apLeaf]; omega⟩
  case i16 =>
    obtain ⟨n, r1, h1, h2⟩ := bind_some h
    obtain ⟨rfl, rfl⟩ := pure_some h2
    obtain ⟨e1, e2, e3⟩ := out_int (by omega) h1
    exact ⟨⟨by omega, by omega⟩, by simp [apLeaf, be16_length]; omega⟩
  case i32 =>
    obtain ⟨n, r1, h1, h2⟩ := bind_some h
    obtain ⟨rfl, rfl⟩ := pure_some h2
    obtain ⟨e1, e2, e3⟩ := out_int (by omega) h1
    exact ⟨⟨by omega, by omega⟩, by simp [apLeaf, be32_length]; omega⟩
  case i64 =>
    obtain ⟨n, r1, h1, h2⟩ := bind_some h
    obtain ⟨rfl, rfl⟩ := pure_some h2
    obtain ⟨e1, e2, e3⟩ := out_int (by omega) h1
    exact ⟨⟨by omega, by omega⟩, by simp [apLeaf, be64_length]; omega⟩
  case u16 =>
    obtain ⟨n, r1, h1, h2⟩ := bind_some h
    obtain ⟨rfl, rfl⟩ := pure_some h2
    obtain ⟨e1, e3⟩ := out_nat h1
    exact ⟨⟨by omega, by omega⟩, by simp [apLeaf, be16_length]; omega⟩
  case bool =>
    obtain ⟨n, r1, h1, h2⟩ := bind_some h
    obtain ⟨rfl, rfl⟩ := pure_some h2
    obtain ⟨e1, e3⟩ := out_nat h1
    exact ⟨trivial, by simp [apLeaf]; omega⟩
  case uuid =>
    obtain ⟨n, r1, h1, h2⟩ := bind_some h
    obtain ⟨rfl, rfl⟩ := pure_some h2
    obtain ⟨e1, e3⟩ := out_take h1
    exact ⟨e1, by simp [apLeaf]; omega⟩
  case str =>
    obtain ⟨s, rfl, h1, h2⟩ := out_str hb h
    exact ⟨h1, h2⟩
  case nstr =>
    rcases out_nstr hb h with ⟨rfl, h1⟩ | ⟨s, rfl, h1, h2⟩
    · exact ⟨trivial, h1⟩
    · exact ⟨h1, h2⟩
  case bytes =>
    obtain ⟨s, rfl, h1, h2⟩ := out_bytes hb h
    exact ⟨h1, h2⟩
  case nstrFrom m =>
    by_cases hm : ver < m
    · rw [if_pos hm] at h
      obtain ⟨s, rfl, h1, h2⟩ := out_str hb h
      exact ⟨h1, h2⟩
    · rw [if_neg hm] at h
      rcases out_nstr hb h with ⟨rfl, h1⟩ | ⟨s, rfl, h1, h2⟩
      · exact ⟨hm, by simpa [apLeaf, hm] using h1⟩
      · exact ⟨h1, h2⟩
theorem out_count {flex : Bool} {bs r : List UInt8} {n : Int} (h : rdCount flex bs = some (n, r)) : (nulB flex).length + r.length ≤ bs.length ∧ (lenB flex n.toNat).length + r.length ≤ bs.length := by
  cases flex
  · simp only [rdCount, Bool.false_eq_true, if_false] at h
    obtain ⟨e1, e2, e3⟩ := out_int (by omega) h
    simp [nulB, lenB, be32_length]
    omega
  · simp only [rdCount, if_true] at h
    obtain ⟨m, r1, h1, h2⟩ := bind_some h
    obtain ⟨rfl, rfl⟩ := pure_some h2
    obtain ⟨e1, e2⟩ := out_uv h1
    have e3 := uv_pos m
    simp only [nulB, lenB, if_true, uv0_length]
    refine ⟨by omega, ?_⟩
    have e4 : (sg 2147483648 (sg 2147483648 m - 1)).toNat + 1 ≤ m ∨ (sg 2147483648 (sg 2147483648 m - 1)).toNat = 0 := by unfold sg; omega
    rcases e4 with e4 | e4
    · have := uv_mono e4
      omega
    · rw [e4, Nat.zero_add, uv1_length]
      omega
theorem out_len {flex : Bool} {bs r : List UInt8} {n : Int} (h : rdLen flex bs = some (n, r)) : n ≤ r.length ∧ (nulB flex).length + r.length ≤ bs.length ∧ (lenB flex n.toNat).length + r.length ≤ bs.length := by
  obtain ⟨m, r1, h1, h2⟩ := bind_some h
  split at h2
  · cases h2
  · rename_i hm
    simp only [Option.some.injEq, Prod.mk.injEq] at h2
    obtain ⟨rfl, rfl⟩ := h2
    obtain ⟨e1, e2⟩ := out_count h1
    exact ⟨by omega, e1, e2⟩
theorem out_tag1 {bs r : List UInt8} {t : Nat × List UInt8} (hb : bs.length ≤ M) (h : rdTag1 bs = some (t, r)) : t.1 ≤ 4294967295 ∧ t.2.length ≤ 2147483646 ∧ (apTags [t]).length + r.length ≤ bs.length := by
  unfold M at hb
  obtain ⟨k, r1, h1, h2⟩ := bind_some h
  obtain ⟨n, r2, h3, h4⟩ := bind_some h2
  obtain ⟨v, r3, h5, h6⟩ := bind_some h4
  obtain ⟨rfl, rfl⟩ := pure_some h6
  obtain ⟨a1, a2⟩ := out_uv h1
  obtain ⟨b1, b2⟩ := out_uv h3
  obtain ⟨c1, c2⟩ := out_take h5
  refine ⟨a1, by simp only; omega, ?_⟩
  simp only [apTags, List.flatMap_cons, List.flatMap_nil, List.append_nil, List.length_append]
  rw [c1]
  omega
theorem apTags_cons (t : Nat × List UInt8) (l : List (Nat × List UInt8)) : (apTags (t :: l)).length = (apTags [t]).length + (apTags l).length := by
  simp [apTags]
  omega
theorem out_many_tags : ∀ {n : Nat} {bs r : List UInt8} {l : List (Nat × List UInt8)}, bs.length ≤ M → rdMany rdTag1 n bs = some (l, r) →
    l.length = n ∧ (∀ t ∈ l, t.1 ≤ 4294967295 ∧ t.2.length ≤ 2147483646) ∧ (apTags l).length + r.length ≤ bs.length ∧ n + r.length ≤ bs.length
  | 0, bs, r, l, _, h => by
    obtain ⟨rfl, rfl⟩ := pure_some h
    exact ⟨rfl, (fun t ht => nomatch ht), by simp [apTags], by omega⟩
  | n + 1, bs, r, l, hb, h => by
    obtain ⟨t, r1, h1, h2⟩ := bind_some h
    obtain ⟨l', r2, h3, h4⟩ := bind_some h2
    obtain ⟨rfl, rfl⟩ := pure_some h4
    obtain ⟨a1, a2, a3⟩ := out_tag1 hb h1
    obtain ⟨b1, b2, b3, b4⟩ := out_many_tags (by omega) h3
    have hp : 1 ≤ (apTags [t]).length := by
      have := uv_pos t.1
      simp only [apTags, List.flatMap_cons, List.flatMap_nil, List.append_nil, List.length_append]
      omega
    refine ⟨by simp [b1], ?_, by rw [apTags_cons]; omega, by omega⟩
    intro u hu
    rcases List.mem_cons.1 hu with rfl | hu
    · exact ⟨a1, a2⟩
    · exact b2 u hu
theorem rising_cons {t : Nat × List UInt8} {l : List (Nat × List UInt8)} (h : rising l) (k : ∀ u ∈ l, t.1 < u.1) : rising (t :: l) := by
  cases l with
  | nil => trivial
  | cons a l => exact ⟨k a (List.mem_cons_self ..), h⟩
theorem tagIns_mem : ∀ (l : List (Nat × List UInt8)) (k : Nat) (v : List UInt8) (u : Nat × List UInt8), u ∈ tagIns k v l → u = (k, v) ∨ u ∈ l
  | [], k, v, u, h => by simpa [tagIns] using h
  | (j, x) :: l, k, v, u, h => by
    simp only [tagIns] at h
    split at h
    · simpa using h
    · split at h
      · rcases List.mem_cons.1 h with h | h
        · exact .inl h
        · exact .inr (List.mem_cons_of_mem _ h)
      · rcases List.mem_cons.1 h with h | h
        · exact .inr (by rw [h]; exact List.mem_cons_self ..)
        · rcases tagIns_mem l k v u h with h | h
          · exact .inl h
          · exact .inr (List.mem_cons_of_mem _ h)
theorem tagIns_rising : ∀ (l : List (Nat × List UInt8)) (k : Nat) (v : List UInt8), rising l → rising (tagIns k v l) ∧ (tagIns k v l).length ≤ l.length + 1 ∧ (apTags (tagIns k v l)).length ≤ (apTags [(k, v)]).length + (apTags l).length
  | [], k, v, _ => ⟨trivial, by simp [tagIns], by simp [tagIns, apTags]⟩
  | (j, x) :: l, k, v, h => by
    obtain ⟨h1, h2⟩ := rising_tail h
    simp only [tagIns]
    split
    · rename_i hk
      refine ⟨⟨hk, h⟩, by simp, by rw [apTags_cons (k, v)]; omega⟩
    · split
      · rename_i hk hj
        subst hj
        refine ⟨rising_cons h1 h2, by simp, ?_⟩
        rw [apTags_cons, apTags_cons (k, x)]
        omega
      · rename_i hk hj
        obtain ⟨i1, i2, i3⟩ := tagIns_rising l k v h1
        refine ⟨rising_cons i1 ?_, by simp only [List.length_cons]; omega, by rw [apTags_cons (j, x), apTags_cons (j, x) l]; omega⟩
        intro u hu
        rcases tagIns_mem l k v u hu with rfl | hu
        · simp only; omega
        · exact h2 u hu
theorem foldl_out : ∀ (l acc : List (Nat × List UInt8)), rising acc → (∀ t ∈ acc, t.1 ≤ 4294967295 ∧ t.2.length ≤ 2147483646) → (∀ t ∈ l, t.1 ≤ 4294967295 ∧ t.2.length ≤ 2147483646) →
    rising (l.foldl (fun acc t => tagIns t.1 t.2 acc) acc) ∧ (l.foldl (fun acc t => tagIns t.1 t.2 acc) acc).length ≤ acc.length + l.length ∧
    (apTags (l.foldl (fun acc t => tagIns t.1 t.2 acc) acc)).length ≤ (apTags acc).length + (apTags l).length ∧ (∀ t ∈ l.foldl (fun acc t => tagIns t.1 t.2 acc) acc, t.1 ≤ 4294967295 ∧ t.2.length ≤ 2147483646)
  | [], acc, h, h2, _ => ⟨h, by simp, by simp [apTags], h2⟩
  | t :: l, acc, h, h2, h3 => by
    obtain ⟨i1, i2, i3⟩ := tagIns_rising acc t.1 t.2 h
    obtain ⟨j1, j2, j3, j4⟩ := foldl_out l (tagIns t.1 t.2 acc) i1 (fun u hu => by
      rcases tagIns_mem acc t.1 t.2 u hu with rfl | hu
      · exact h3 _ (List.mem_cons_self ..)
      · exact h2 u hu) (fun u hu => h3 u (List.mem_cons_of_mem _ hu))
    simp only [List.foldl_cons]
    refine ⟨j1, by simp only [List.length_cons]; omega, ?_, j4⟩
    rw [apTags_cons t l]
    have e : (apTags [(t.1, t.2)]).length = (apTags [t]).length := rfl
    omega
theorem out_tagsRaw {bs r : List UInt8} {l : List (Nat × List UInt8)} (hb : bs.length ≤ M) (h : rdTagsRaw bs = some (l, r)) :
    rising (tagSort l) ∧ (tagSort l).length ≤ l.length ∧ l.length ≤ M ∧ (∀ t ∈ l, t.1 ≤ 4294967295 ∧ t.2.length ≤ 2147483646) ∧ (∀ t ∈ tagSort l, t.1 ≤ 4294967295 ∧ t.2.length ≤ 2147483646) ∧ (Proofs.YtellhjpdpaeieaaDoor.uv (tagSort l).length ++ apTags (tagSort l)).length + r.length ≤ bs.length := by
  obtain ⟨n, r1, h1, h2⟩ := bind_some h
  obtain ⟨a1, a2⟩ := out_uv h1
  obtain ⟨b1, b2, b3, b4⟩ := out_many_tags (by omega) h2
  obtain ⟨c1, c2, c3, c4⟩ := foldl_out l [] trivial (fun t ht => nomatch ht) b2
  have e0 : (apTags []).length = 0 := rfl
  have c2' : (tagSort l).length ≤ l.length := by
    have : (tagSort l).length ≤ ([] : List (Nat × List UInt8)).length + l.length := c2
    simpa using this
  have c3' : (apTags (tagSort l)).length ≤ (apTags []).length + (apTags l).length := c3
  refine ⟨c1, c2', by omega, b2, c4, ?_⟩
  have := uv_mono c2'
  simp only [List.length_append]
  rw [b1] at this
  omega
theorem out_many {ver : Int} {flex : Bool} {e : Sch} (ih : ∀ {bs r : List UInt8} {v : GV}, bs.length ≤ M → rd ver flex e bs = some (v, r) → WF ver flex e v ∧ (ap ver flex e v).length + r.length ≤ bs.length) :
    ∀ {n : Nat} {bs r : List UInt8} {l : List GV}, bs.length ≤ M → rdMany (rd ver flex e) n bs = some (l, r) → l.length = n ∧ (∀ v ∈ l, WF ver flex e v) ∧ (l.flatMap (ap ver flex e)).length + r.length ≤ bs.length
  | 0, bs, r, l, _, h => by
    obtain ⟨rfl, rfl⟩ := pure_some h
    exact ⟨rfl, (fun t ht => nomatch ht), by simp⟩
  | n + 1, bs, r, l, hb, h => by
    obtain ⟨t, r1, h1, h2⟩ := bind_some h
    obtain ⟨l', r2, h3, h4⟩ := bind_some h2
    obtain ⟨rfl, rfl⟩ := pure_some h4
    obtain ⟨a1, a2⟩ := ih hb h1
    obtain ⟨b1, b2, b3⟩ := out_many ih (by omega) h3
    refine ⟨by simp [b1], ?_, by simp only [List.flatMap_cons, List.length_append]; omega⟩
    intro u hu
    rcases List.mem_cons.1 hu with rfl | hu
    · exact a1
    · exact b2 u hu
/-- What is read can be written, in as many octets at the most. -/
theorem rd_out (ver : Int) (flex : Bool) : ∀ (s : Sch), okS ver flex s = true → ∀ {bs r : List UInt8} {v : GV}, bs.length ≤ M → rd ver flex s bs = some (v, r) → WF ver flex s v ∧ (ap ver flex s v).length + r.length ≤ bs.length
  | .leaf k, _, bs, r, v, hb, h => out_leaf hb h
  | .list nul z e, hk, bs, r, v, hb, h => by
    simp only [okS, Bool.and_eq_true] at hk
    unfold rd at h
    obtain ⟨n, r1, h1, h2⟩ := bind_some h
    obtain ⟨a1, a2, a3⟩ := out_len h1
    split at h2
    · rename_i hn
      obtain ⟨rfl, rfl⟩ := pure_some h2
      exact ⟨hn.2, a2⟩
    · obtain ⟨l, r2, h3, h4⟩ := bind_some h2
      obtain ⟨rfl, rfl⟩ := pure_some h4
      obtain ⟨b1, b2, b3⟩ := out_many (rd_out ver flex e hk.2) (by omega) h3
      unfold M at hb
      refine ⟨⟨by omega, b2⟩, ?_⟩
      simp only [ap, List.length_append]
      rw [b1]
      omega
  | .opt e, hk, bs, r, v, hb, h => by
    simp only [okS, Bool.and_eq_true] at hk
    unfold rd at h
    obtain ⟨n, r1, h1, h2⟩ := bind_some h
    obtain ⟨a1, a2, a3⟩ := out_int (by omega) h1
    split at h2
    · obtain ⟨rfl, rfl⟩ := pure_some h2
      exact ⟨trivial, by simp [ap]; omega⟩
    · obtain ⟨b1, b2⟩ := rd_out ver flex e hk.2 (by omega) h2
      have hv : v ≠ .null := by
        rintro rfl
        cases e <;> simp [WF] at b1 hk
      have a2 : ap ver flex (.opt e) v = 1 :: ap ver flex e v := by cases v <;> first | exact absurd rfl hv | rfl
      refine ⟨by cases v <;> first | exact absurd rfl hv | exact b1, ?_⟩
      rw [a2]
      simp only [List.length_cons]
      omega
  | .done, _, bs, r, v, hb, h => by
    obtain ⟨rfl, rfl⟩ := pure_some h
    exact ⟨trivial, by simp [ap]⟩
  | .tags _, _, bs, r, v, hb, h => by
    unfold rd rdTags at h
    cases flex
    · simp only [Bool.false_eq_true, if_false] at h
      obtain ⟨rfl, rfl⟩ := pure_some h
      exact ⟨⟨trivial, by simp, (fun t ht => nomatch ht), fun _ => rfl⟩, by simp [ap]⟩
    · simp only [if_true] at h
      obtain ⟨l, r1, h1, h2⟩ := bind_some h
      obtain ⟨rfl, rfl⟩ := pure_some h2
      obtain ⟨a1, a2, a3, a4, a5, a6⟩ := out_tagsRaw hb h1
      unfold M at a3
      exact ⟨⟨a1, by omega, a5, fun h => nomatch h⟩, by simpa [ap] using a6⟩
  | .cons off lo hi f rest, hk, bs, r, v, hb, h => by
    simp only [okS, Bool.and_eq_true, Bool.or_eq_true, Bool.not_eq_true'] at hk
    unfold rd at h
    by_cases hv : hasV lo hi ver = true
    · rw [if_pos hv] at h
      obtain ⟨x, r1, h1, h2⟩ := bind_some h
      obtain ⟨y, r2, h3, h4⟩ := bind_some h2
      obtain ⟨rfl, rfl⟩ := pure_some h4
      obtain ⟨a1, a2⟩ := rd_out ver flex f (hk.1.resolve_left (by rw [hv]; exact fun h => by cases h)) hb h1
      obtain ⟨b1, b2⟩ := rd_out ver flex rest hk.2 (by omega) h3
      refine ⟨⟨fun _ => a1, b1⟩, ?_⟩
      simp only [ap, if_pos hv, List.length_append]
      omega
    · rw [if_neg hv] at h
      obtain ⟨y, r2, h3, h4⟩ := bind_some h
      obtain ⟨rfl, rfl⟩ := pure_some h4
      obtain ⟨b1, b2⟩ := rd_out ver flex rest hk.2 (by omega) h3
      refine ⟨⟨fun h => absurd h hv, b1⟩, ?_⟩
      simp only [ap, if_neg hv, List.nil_append]
      exact b2
end Go.Proofs.YtellhjpdpaeieaaDoor
