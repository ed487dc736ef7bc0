/- Shared texts of these proofs, laid together by merge.py: Rdo, Rv, Rw, Rf, Rg, Rl, Rn. -/
import Derived.Test.YtfchajjllhndlabGreatDoorMb
import Derived.Laws.BytesString
import Derived.Lib.AppendZeros
set_option linter.unusedVariables false
/- What is read can be written, in as many octets at the most. Plain functions over bytes: no program in sight. -/
namespace Go.Proofs.YtfchajjllhndlabGreatDoor

theorem out_take {n : Nat} {bs l r : List UInt8} (h : rdTake n bs = some (l, r)) : l.length = n ∧ n + r.length = bs.length := by
  unfold rdTake at h
  split at h
  · simp only [Option.some.injEq, Prod.mk.injEq] at h
    obtain ⟨rfl, rfl⟩ := h
    simp
    omega
  · cases h
theorem pure_some {α : Type} {v u : α} {bs r : List UInt8} (h : Pr.pure v bs = some (u, r)) : v = u ∧ bs = r := by
  simpa [Pr.pure] using h
theorem out_nat {k n : Nat} {bs r : List UInt8} (h : rdNat k bs = some (n, r)) : n < 256 ^ k ∧ k + r.length = bs.length := by
  obtain ⟨l, r', h1, h2⟩ := bind_some h
  obtain ⟨rfl, rfl⟩ := pure_some h2
  obtain ⟨e1, e2⟩ := out_take h1
  have := beNat_lt l
  rw [e1] at this
  exact ⟨this, e2⟩
theorem out_int {k : Nat} {m n : Int} {bs r : List UInt8} (hm : 0 < m) (h : rdInt k m bs = some (n, r)) : -m ≤ n ∧ n < m ∧ k + r.length = bs.length := by
  obtain ⟨l, r', h1, h2⟩ := bind_some h
  obtain ⟨rfl, rfl⟩ := pure_some h2
  obtain ⟨e1, e2⟩ := out_nat h1
  have h3 := Int.emod_nonneg ((l : Int) + m) (b := 2 * m) (by omega)
  have h4 := Int.emod_lt_of_pos ((l : Int) + m) (b := 2 * m) (by omega)
  refine ⟨?_, ?_, e2⟩ <;> (unfold sg; omega)
theorem out_uvF : ∀ {k n : Nat} {bs r : List UInt8}, rdUvF k bs = some (n, r) → n < 16 * 128 ^ k ∧ (Proofs.YtfchajjllhndlabGreatDoor.uvF k n).length + r.length ≤ bs.length
  | 0, n, bs, r, h => by
    cases bs with
    | nil => cases h
    | cons b l =>
      simp only [rdUvF] at h
      split at h
      · rename_i hb
        simp only [Option.some.injEq, Prod.mk.injEq] at h
        obtain ⟨rfl, rfl⟩ := h
        simp [Proofs.YtfchajjllhndlabGreatDoor.uvF]
        omega
      · cases h
  | k + 1, n, bs, r, h => by
    cases bs with
    | nil => cases h
    | cons b l =>
      simp only [rdUvF] at h
      split at h
      · rename_i hb
        simp only [Option.some.injEq, Prod.mk.injEq] at h
        obtain ⟨rfl, rfl⟩ := h
        have hp : 0 < 128 ^ (k + 1) := Nat.pow_pos (by omega)
        simp only [Proofs.YtfchajjllhndlabGreatDoor.uvF, if_pos hb, List.length_cons, List.length_nil]
        rw [Nat.pow_succ] at *
        omega
      · cases hr : rdUvF k l with
        | none => rw [hr] at h; cases h
        | some q =>
          obtain ⟨m, r'⟩ := q
          rw [hr] at h
          simp only [Option.some.injEq, Prod.mk.injEq] at h
          obtain ⟨rfl, rfl⟩ := h
          obtain ⟨h1, h2⟩ := out_uvF hr
          have e : (b.toNat % 128 + 128 * m) / 128 = m := by omega
          refine ⟨by rw [Nat.pow_succ]; omega, ?_⟩
          simp only [Proofs.YtfchajjllhndlabGreatDoor.uvF, e]
          split
          · simp only [List.length_cons, List.length_nil]
            have := (uvF_length k m).2
            omega
          · simp only [List.length_cons]
            omega
theorem out_uv {n : Nat} {bs r : List UInt8} (h : rdUv bs = some (n, r)) : n ≤ 4294967295 ∧ (Proofs.YtfchajjllhndlabGreatDoor.uv n).length + r.length ≤ bs.length := by
  obtain ⟨h1, h2⟩ := out_uvF h
  refine ⟨by omega, ?_⟩
  have e : Proofs.YtfchajjllhndlabGreatDoor.uv n = Proofs.YtfchajjllhndlabGreatDoor.uvF 4 n := uvF_more 4 5 n h1
  rw [e]
  exact h2
theorem uvF_mono : ∀ (k n m : Nat), n ≤ m → (Proofs.YtfchajjllhndlabGreatDoor.uvF k n).length ≤ (Proofs.YtfchajjllhndlabGreatDoor.uvF k m).length
  | 0, _, _, _ => by simp [Proofs.YtfchajjllhndlabGreatDoor.uvF]
  | k + 1, n, m, h => by
    simp only [Proofs.YtfchajjllhndlabGreatDoor.uvF]
    split
    · split
      · simp
      · have := (uvF_length k (m / 128)).2
        simp only [List.length_cons, List.length_nil]
        omega
    · rw [if_neg (by omega)]
      have := uvF_mono k (n / 128) (m / 128) (by omega)
      simp only [List.length_cons]
      omega
theorem uv_mono {n m : Nat} (h : n ≤ m) : (Proofs.YtfchajjllhndlabGreatDoor.uv n).length ≤ (Proofs.YtfchajjllhndlabGreatDoor.uv m).length := uvF_mono 9 n m h
theorem uv0_length : (Proofs.YtfchajjllhndlabGreatDoor.uv 0).length = 1 := by decide
theorem uv1_length : (Proofs.YtfchajjllhndlabGreatDoor.uv 1).length = 1 := by decide

def M : Nat := 140737488355328
theorem out_str {flex : Bool} {bs r : List UInt8} {v : GV} (hb : bs.length ≤ M) (h : rdStr flex bs = some (v, r)) : ∃ s, v = .bytes s ∧ s.length ≤ strMax flex ∧ (lenS flex s.length ++ s).length + r.length ≤ bs.length := by
  unfold M at hb
  cases flex
  · simp only [rdStr, Bool.false_eq_true, if_false] at h
    obtain ⟨n, r1, h1, h2⟩ := bind_some h
    obtain ⟨e1, e2, e3⟩ := out_int (by omega) h1
    split at h2
    · cases h2
    · obtain ⟨s, r2, h3, h4⟩ := bind_some h2
      obtain ⟨rfl, rfl⟩ := pure_some h4
      obtain ⟨g1, g2⟩ := out_take h3
      refine ⟨s, rfl, by simp [strMax]; omega, ?_⟩
      simp [lenS, be16_length]
      omega
  · simp only [rdStr, if_true] at h
    obtain ⟨n, r1, h1, h2⟩ := bind_some h
    obtain ⟨e1, e2⟩ := out_uv h1
    split at h2
    · cases h2
    · obtain ⟨s, r2, h3, h4⟩ := bind_some h2
      obtain ⟨rfl, rfl⟩ := pure_some h4
      obtain ⟨g1, g2⟩ := out_take h3
      refine ⟨s, rfl, by simp [strMax]; omega, ?_⟩
      simp only [lenS, if_true, List.length_append]
      rw [g1, show n - 1 + 1 = n by omega]
      omega
theorem out_nstr {flex : Bool} {bs r : List UInt8} {v : GV} (hb : bs.length ≤ M) (h : rdNStr flex bs = some (v, r)) :
    (v = .null ∧ (nulS flex).length + r.length ≤ bs.length) ∨ ∃ s, v = .bytes s ∧ s.length ≤ strMax flex ∧ (lenS flex s.length ++ s).length + r.length ≤ bs.length := by
  unfold M at hb
  cases flex
  · simp only [rdNStr, Bool.false_eq_true, if_false] at h
    obtain ⟨n, r1, h1, h2⟩ := bind_some h
    obtain ⟨e1, e2, e3⟩ := out_int (by omega) h1
    split at h2
    · obtain ⟨rfl, rfl⟩ := pure_some h2
      exact .inl ⟨rfl, by simp [nulS, be16_length]; omega⟩
    · obtain ⟨s, r2, h3, h4⟩ := bind_some h2
      obtain ⟨rfl, rfl⟩ := pure_some h4
      obtain ⟨g1, g2⟩ := out_take h3
      refine .inr ⟨s, rfl, by simp [strMax]; omega, ?_⟩
      simp [lenS, be16_length]
      omega
  · simp only [rdNStr, if_true] at h
    obtain ⟨n, r1, h1, h2⟩ := bind_some h
    obtain ⟨e1, e2⟩ := out_uv h1
    split at h2
    · obtain ⟨rfl, rfl⟩ := pure_some h2
      subst n
      exact .inl ⟨rfl, by simpa [nulS] using e2⟩
    · obtain ⟨s, r2, h3, h4⟩ := bind_some h2
      obtain ⟨rfl, rfl⟩ := pure_some h4
      obtain ⟨g1, g2⟩ := out_take h3
      refine .inr ⟨s, rfl, by simp [strMax]; omega, ?_⟩
      simp only [lenS, if_true, List.length_append]
      rw [g1, show n - 1 + 1 = n by omega]
      omega
theorem out_bytes {flex : Bool} {bs r : List UInt8} {v : GV} (hb : bs.length ≤ M) (h : rdBytes flex bs = some (v, r)) : ∃ s, v = .bytes s ∧ s.length ≤ bMax flex ∧ (lenB flex s.length ++ s).length + r.length ≤ bs.length := by
  unfold M at hb
  cases flex
  · simp only [rdBytes, Bool.false_eq_true, if_false] at h
    obtain ⟨n, r1, h1, h2⟩ := bind_some h
    obtain ⟨e1, e2, e3⟩ := out_int (by omega) h1
    split at h2
    · obtain ⟨rfl, rfl⟩ := pure_some h2
      exact ⟨[], rfl, by simp, by simp [lenB, be32_length]; omega⟩
    · split at h2
      · cases h2
      · obtain ⟨s, r2, h3, h4⟩ := bind_some h2
        obtain ⟨rfl, rfl⟩ := pure_some h4
        obtain ⟨g1, g2⟩ := out_take h3
        refine ⟨s, rfl, by rw [g1]; show n.toNat ≤ 2147483647; omega, ?_⟩
        simp [lenB, be32_length]
        omega
  · simp only [rdBytes, if_true] at h
    obtain ⟨n, r1, h1, h2⟩ := bind_some h
    obtain ⟨e1, e2⟩ := out_uv h1
    split at h2
    · obtain ⟨rfl, rfl⟩ := pure_some h2
      subst n
      rw [uv0_length] at e2
      exact ⟨[], rfl, by simp, by simp [lenB, uv1_length]; omega⟩
    · obtain ⟨s, r2, h3, h4⟩ := bind_some h2
      obtain ⟨rfl, rfl⟩ := pure_some h4
      obtain ⟨g1, g2⟩ := out_take h3
      refine ⟨s, rfl, by rw [g1]; show n - 1 ≤ 4294967294; omega, ?_⟩
      simp only [lenB, if_true, List.length_append]
      rw [g1, show n - 1 + 1 = n by omega]
      omega
theorem out_leaf {ver : Int} {flex : Bool} {k : Leaf} {bs r : List UInt8} {v : GV} (hb : bs.length ≤ M) (h : rdLeaf ver flex k bs = some (v, r)) : wfLeaf ver flex k v ∧ (apLeaf ver flex k v).length + r.length ≤ bs.length := by
  cases k <;> simp only [rdLeaf] at h
  case i8 =>
    obtain ⟨n, r1, h1, h2⟩ := bind_some h
    obtain ⟨rfl, rfl⟩ := pure_some h2
    obtain ⟨e1, e2, e3⟩ := out_int (by omega) h1
    exact ⟨⟨by omega, by omega⟩, by simp [apLeaf]; omega⟩
  case i16 =>
    obtain ⟨n, r1, h1, h2⟩ := bind_some h
    obtain ⟨rfl, rfl⟩ := pure_some h2
    obtain ⟨e1, e2, e3⟩ := out_int (by omega) h1
    exact ⟨⟨by omega, by omega⟩, by simp [apLeaf, be16_length]; omega⟩
  case i32 =>
    obtain ⟨n, r1, h1, h2⟩ := bind_some h
    obtain ⟨rfl, rfl⟩ := pure_some h2
    obtain ⟨e1, e2, e3⟩ := out_int (by omega) h1
    exact ⟨⟨by omega, by omega⟩, by simp [apLeaf, be32_length]; omega⟩
  case i64 =>
    obtain ⟨n, r1, h1, h2⟩ := bind_some h
    obtain ⟨rfl, rfl⟩ := pure_some h2
    obtain ⟨e1, e2, e3⟩ := out_int (by omega) h1
    exact ⟨⟨by omega, by omega⟩, by simp [apLeaf, be64_length]; omega⟩
  case u16 =>
    obtain ⟨n, r1, h1, h2⟩ := bind_some h
    obtain ⟨rfl, rfl⟩ := pure_some h2
    obtain ⟨e1, e3⟩ := out_nat h1
    exact ⟨⟨by omega, by omega⟩, by simp [apLeaf, be16_length]; omega⟩
  case bool =>
    obtain ⟨n, r1, h1, h2⟩ := bind_some h
    obtain ⟨rfl, rfl⟩ := pure_some h2
    obtain ⟨e1, e3⟩ := out_nat h1
    exact ⟨trivial, by simp [apLeaf]; omega⟩
  case uuid =>
    obtain ⟨n, r1, h1, h2⟩ := bind_some h
    obtain ⟨rfl, rfl⟩ := pure_some h2
    obtain ⟨e1, e3⟩ := out_take h1
    exact ⟨e1, by simp [apLeaf]; omega⟩
  case str =>
    obtain ⟨s, rfl, h1, h2⟩ := out_str hb h
    exact ⟨h1, h2⟩
  case nstr =>
    rcases out_nstr hb h with ⟨rfl, h1⟩ | ⟨s, rfl, h1, h2⟩
    · exact ⟨trivial, h1⟩
    · exact ⟨h1, h2⟩
  case bytes =>
    obtain ⟨s, rfl, h1, h2⟩ := out_bytes hb h
    exact ⟨h1, h2⟩
  case nstrFrom m =>
    by_cases hm : ver < m
    · rw [if_pos hm] at h
      obtain ⟨s, rfl, h1, h2⟩ := out_str hb h
      exact ⟨h1, h2⟩
    · rw [if_neg hm] at h
      rcases out_nstr hb h with ⟨rfl, h1⟩ | ⟨s, rfl, h1, h2⟩
      · exact ⟨hm, by simpa [apLeaf, hm] using h1⟩
      · exact ⟨h1, h2⟩
theorem out_count {flex : Bool} {bs r : List UInt8} {n : Int} (h : rdCount flex bs = some (n, r)) : (nulB flex).length + r.length ≤ bs.length ∧ (lenB flex n.toNat).length + r.length ≤ bs.length ∧ n ≤ 2147483647 := by
  cases flex
  · simp only [rdCount, Bool.false_eq_true, if_false] at h
    obtain ⟨e1, e2, e3⟩ := out_int (by omega) h
    simp [nulB, lenB, be32_length]
    omega
  · simp only [rdCount, if_true] at h
    obtain ⟨m, r1, h1, h2⟩ := bind_some h
    obtain ⟨rfl, rfl⟩ := pure_some h2
    obtain ⟨e1, e2⟩ := out_uv h1
    have e3 := uv_pos m
    simp only [nulB, lenB, if_true, uv0_length]
    refine ⟨by omega, ?_, by unfold sg; omega⟩
    have e4 : (sg 2147483648 (sg 2147483648 m - 1)).toNat + 1 ≤ m ∨ (sg 2147483648 (sg 2147483648 m - 1)).toNat = 0 := by unfold sg; omega
    rcases e4 with e4 | e4
    · have := uv_mono e4
      omega
    · rw [e4, Nat.zero_add, uv1_length]
      omega
theorem out_len {flex : Bool} {bs r : List UInt8} {n : Int} (h : rdLen flex bs = some (n, r)) : n ≤ r.length ∧ (nulB flex).length + r.length ≤ bs.length ∧ (lenB flex n.toNat).length + r.length ≤ bs.length ∧ n ≤ 2147483647 := by
  obtain ⟨m, r1, h1, h2⟩ := bind_some h
  split at h2
  · cases h2
  · rename_i hm
    simp only [Option.some.injEq, Prod.mk.injEq] at h2
    obtain ⟨rfl, rfl⟩ := h2
    obtain ⟨e1, e2, e3⟩ := out_count h1
    exact ⟨by omega, e1, e2, e3⟩
theorem out_tag1 {bs r : List UInt8} {t : Nat × List UInt8} (hb : bs.length ≤ M) (h : rdTag1 bs = some (t, r)) : t.1 ≤ 4294967295 ∧ t.2.length ≤ 4294967295 ∧ (apTags [t]).length + r.length ≤ bs.length := by
  unfold M at hb
  obtain ⟨k, r1, h1, h2⟩ := bind_some h
  obtain ⟨n, r2, h3, h4⟩ := bind_some h2
  obtain ⟨v, r3, h5, h6⟩ := bind_some h4
  obtain ⟨rfl, rfl⟩ := pure_some h6
  obtain ⟨a1, a2⟩ := out_uv h1
  obtain ⟨b1, b2⟩ := out_uv h3
  obtain ⟨c1, c2⟩ := out_take h5
  refine ⟨a1, by simp only; omega, ?_⟩
  simp only [apTags, List.flatMap_cons, List.flatMap_nil, List.append_nil, List.length_append]
  rw [c1]
  omega
theorem apTags_cons (t : Nat × List UInt8) (l : List (Nat × List UInt8)) : (apTags (t :: l)).length = (apTags [t]).length + (apTags l).length := by
  simp [apTags]
  omega
theorem out_many_tags : ∀ {n : Nat} {bs r : List UInt8} {l : List (Nat × List UInt8)}, bs.length ≤ M → rdMany rdTag1 n bs = some (l, r) →
    l.length = n ∧ (∀ t ∈ l, t.1 ≤ 4294967295 ∧ t.2.length ≤ 4294967295) ∧ (apTags l).length + r.length ≤ bs.length ∧ n + r.length ≤ bs.length
  | 0, bs, r, l, _, h => by
    obtain ⟨rfl, rfl⟩ := pure_some h
    exact ⟨rfl, (fun t ht => nomatch ht), by simp [apTags], by omega⟩
  | n + 1, bs, r, l, hb, h => by
    obtain ⟨t, r1, h1, h2⟩ := bind_some h
    obtain ⟨l', r2, h3, h4⟩ := bind_some h2
    obtain ⟨rfl, rfl⟩ := pure_some h4
    obtain ⟨a1, a2, a3⟩ := out_tag1 hb h1
    obtain ⟨b1, b2, b3, b4⟩ := out_many_tags (by omega) h3
    have hp : 1 ≤ (apTags [t]).length := by
      have := uv_pos t.1
      simp only [apTags, List.flatMap_cons, List.flatMap_nil, List.append_nil, List.length_append]
      omega
    refine ⟨by simp [b1], ?_, by rw [apTags_cons]; omega, by omega⟩
    intro u hu
    rcases List.mem_cons.1 hu with rfl | hu
    · exact ⟨a1, a2⟩
    · exact b2 u hu
theorem rising_cons {t : Nat × List UInt8} {l : List (Nat × List UInt8)} (h : rising l) (k : ∀ u ∈ l, t.1 < u.1) : rising (t :: l) := by
  cases l with
  | nil => trivial
  | cons a l => exact ⟨k a (List.mem_cons_self ..), h⟩
theorem tagIns_mem : ∀ (l : List (Nat × List UInt8)) (k : Nat) (v : List UInt8) (u : Nat × List UInt8), u ∈ tagIns k v l → u = (k, v) ∨ u ∈ l
  | [], k, v, u, h => by simpa [tagIns] using h
  | (j, x) :: l, k, v, u, h => by
    simp only [tagIns] at h
    split at h
    · simpa using h
    · split at h
      · rcases List.mem_cons.1 h with h | h
        · exact .inl h
        · exact .inr (List.mem_cons_of_mem _ h)
      · rcases List.mem_cons.1 h with h | h
        · exact .inr (by rw [h]; exact List.mem_cons_self ..)
        · rcases tagIns_mem l k v u h with h | h
          · exact .inl h
          · exact .inr (List.mem_cons_of_mem _ h)
theorem tagIns_rising : ∀ (l : List (Nat × List UInt8)) (k : Nat) (v : List UInt8), rising l → rising (tagIns k v l) ∧ (tagIns k v l).length ≤ l.length + 1 ∧ (apTags (tagIns k v l)).length ≤ (apTags [(k, v)]).length + (apTags l).length
  | [], k, v, _ => ⟨trivial, by simp [tagIns], by simp [tagIns, apTags]⟩
  | (j, x) :: l, k, v, h => by
    obtain ⟨h1, h2⟩ := rising_tail h
    simp only [tagIns]
    split
    · rename_i hk
      refine ⟨⟨hk, h⟩, by simp, by rw [apTags_cons (k, v)]; omega⟩
    · split
      · rename_i hk hj
        subst hj
        refine ⟨rising_cons h1 h2, by simp, ?_⟩
        rw [apTags_cons, apTags_cons (k, x)]
        omega
      · rename_i hk hj
        obtain ⟨i1, i2, i3⟩ := tagIns_rising l k v h1
        refine ⟨rising_cons i1 ?_, by simp only [List.length_cons]; omega, by rw [apTags_cons (j, x), apTags_cons (j, x) l]; omega⟩
        intro u hu
        rcases tagIns_mem l k v u hu with rfl | hu
        · simp only; omega
        · exact h2 u hu
theorem foldl_out : ∀ (l acc : List (Nat × List UInt8)), rising acc → (∀ t ∈ acc, t.1 ≤ 4294967295 ∧ t.2.length ≤ 4294967295) → (∀ t ∈ l, t.1 ≤ 4294967295 ∧ t.2.length ≤ 4294967295) →
    rising (l.foldl (fun acc t => tagIns t.1 t.2 acc) acc) ∧ (l.foldl (fun acc t => tagIns t.1 t.2 acc) acc).length ≤ acc.length + l.length ∧
    (apTags (l.foldl (fun acc t => tagIns t.1 t.2 acc) acc)).length ≤ (apTags acc).length + (apTags l).length ∧ (∀ t ∈ l.foldl (fun acc t => tagIns t.1 t.2 acc) acc, t.1 ≤ 4294967295 ∧ t.2.length ≤ 4294967295)
  | [], acc, h, h2, _ => ⟨h, by simp, by simp [apTags], h2⟩
  | t :: l, acc, h, h2, h3 => by
    obtain ⟨i1, i2, i3⟩ := tagIns_rising acc t.1 t.2 h
    obtain ⟨j1, j2, j3, j4⟩ := foldl_out l (tagIns t.1 t.2 acc) i1 (fun u hu => by
      rcases tagIns_mem acc t.1 t.2 u hu with rfl | hu
      · exact h3 _ (List.mem_cons_self ..)
      · exact h2 u hu) (fun u hu => h3 u (List.mem_cons_of_mem _ hu))
    simp only [List.foldl_cons]
    refine ⟨j1, by simp only [List.length_cons]; omega, ?_, j4⟩
    rw [apTags_cons t l]
    have e : (apTags [(t.1, t.2)]).length = (apTags [t]).length := rfl
    omega
theorem out_tagsRaw {bs r : List UInt8} {l : List (Nat × List UInt8)} (hb : bs.length ≤ M) (h : rdTagsRaw bs = some (l, r)) :
    rising (tagSort l) ∧ (tagSort l).length ≤ l.length ∧ l.length ≤ 4294967295 ∧ (∀ t ∈ l, t.1 ≤ 4294967295 ∧ t.2.length ≤ 4294967295) ∧ (∀ t ∈ tagSort l, t.1 ≤ 4294967295 ∧ t.2.length ≤ 4294967295) ∧ (Proofs.YtfchajjllhndlabGreatDoor.uv (tagSort l).length ++ apTags (tagSort l)).length + r.length ≤ bs.length := by
  obtain ⟨n, r1, h1, h2⟩ := bind_some h
  obtain ⟨a1, a2⟩ := out_uv h1
  obtain ⟨b1, b2, b3, b4⟩ := out_many_tags (by omega) h2
  obtain ⟨c1, c2, c3, c4⟩ := foldl_out l [] trivial (fun t ht => nomatch ht) b2
  have e0 : (apTags []).length = 0 := rfl
  have c2' : (tagSort l).length ≤ l.length := by
    have : (tagSort l).length ≤ ([] : List (Nat × List UInt8)).length + l.length := c2
    simpa using this
  have c3' : (apTags (tagSort l)).length ≤ (apTags []).length + (apTags l).length := c3
  refine ⟨c1, c2', by omega, b2, c4, ?_⟩
  have := uv_mono c2'
  simp only [List.length_append]
  rw [b1] at this
  omega
theorem out_many {ver : Int} {flex : Bool} {e : Sch} (ih : ∀ {bs r : List UInt8} {v : GV}, bs.length ≤ M → rd ver flex e bs = some (v, r) → WF ver flex e v ∧ (ap ver flex e v).length + r.length ≤ bs.length) :
    ∀ {n : Nat} {bs r : List UInt8} {l : List GV}, bs.length ≤ M → rdMany (rd ver flex e) n bs = some (l, r) → l.length = n ∧ (∀ v ∈ l, WF ver flex e v) ∧ (l.flatMap (ap ver flex e)).length + r.length ≤ bs.length
  | 0, bs, r, l, _, h => by
    obtain ⟨rfl, rfl⟩ := pure_some h
    exact ⟨rfl, (fun t ht => nomatch ht), by simp⟩
  | n + 1, bs, r, l, hb, h => by
    obtain ⟨t, r1, h1, h2⟩ := bind_some h
    obtain ⟨l', r2, h3, h4⟩ := bind_some h2
    obtain ⟨rfl, rfl⟩ := pure_some h4
    obtain ⟨a1, a2⟩ := ih hb h1
    obtain ⟨b1, b2, b3⟩ := out_many ih (by omega) h3
    refine ⟨by simp [b1], ?_, by simp only [List.flatMap_cons, List.length_append]; omega⟩
    intro u hu
    rcases List.mem_cons.1 hu with rfl | hu
    · exact a1
    · exact b2 u hu
/-- What is read can be written, in as many octets at the most. -/
theorem rd_out (ver : Int) (flex : Bool) : ∀ (s : Sch), okS ver flex s = true → ∀ {bs r : List UInt8} {v : GV}, bs.length ≤ M → rd ver flex s bs = some (v, r) → WF ver flex s v ∧ (ap ver flex s v).length + r.length ≤ bs.length
  | .leaf k, _, bs, r, v, hb, h => out_leaf hb h
  | .list nul z e, hk, bs, r, v, hb, h => by
    simp only [okS, Bool.and_eq_true] at hk
    unfold rd at h
    obtain ⟨n, r1, h1, h2⟩ := bind_some h
    obtain ⟨a1, a2, a3, a4⟩ := out_len h1
    split at h2
    · rename_i hn
      obtain ⟨rfl, rfl⟩ := pure_some h2
      exact ⟨hn.2, a2⟩
    · obtain ⟨l, r2, h3, h4⟩ := bind_some h2
      obtain ⟨rfl, rfl⟩ := pure_some h4
      obtain ⟨b1, b2, b3⟩ := out_many (rd_out ver flex e hk.2) (by omega) h3
      unfold M at hb
      refine ⟨⟨by omega, b2⟩, ?_⟩
      simp only [ap, List.length_append]
      rw [b1]
      omega
  | .opt e, hk, bs, r, v, hb, h => by
    simp only [okS, Bool.and_eq_true] at hk
    unfold rd at h
    obtain ⟨n, r1, h1, h2⟩ := bind_some h
    obtain ⟨a1, a2, a3⟩ := out_int (by omega) h1
    split at h2
    · obtain ⟨rfl, rfl⟩ := pure_some h2
      exact ⟨trivial, by simp [ap]; omega⟩
    · obtain ⟨b1, b2⟩ := rd_out ver flex e hk.2 (by omega) h2
      have hv : v ≠ .null := by
        rintro rfl
        cases e <;> simp [WF] at b1 hk
      have a2 : ap ver flex (.opt e) v = 1 :: ap ver flex e v := by cases v <;> first | exact absurd rfl hv | rfl
      refine ⟨by cases v <;> first | exact absurd rfl hv | exact b1, ?_⟩
      rw [a2]
      simp only [List.length_cons]
      omega
  | .done, _, bs, r, v, hb, h => by
    obtain ⟨rfl, rfl⟩ := pure_some h
    exact ⟨trivial, by simp [ap]⟩
  | .tags _, _, bs, r, v, hb, h => by
    unfold rd rdTags at h
    cases flex
    · simp only [Bool.false_eq_true, if_false] at h
      obtain ⟨rfl, rfl⟩ := pure_some h
      exact ⟨⟨trivial, by simp, (fun t ht => nomatch ht), fun _ => rfl⟩, by simp [ap]⟩
    · simp only [if_true] at h
      obtain ⟨l, r1, h1, h2⟩ := bind_some h
      obtain ⟨rfl, rfl⟩ := pure_some h2
      obtain ⟨a1, a2, a3, a4, a5, a6⟩ := out_tagsRaw hb h1
      exact ⟨⟨a1, by omega, a5, fun h => nomatch h⟩, by simpa [ap] using a6⟩
  | .cons off lo hi f rest, hk, bs, r, v, hb, h => by
    simp only [okS, Bool.and_eq_true, Bool.or_eq_true, Bool.not_eq_true'] at hk
    unfold rd at h
    by_cases hv : hasV lo hi ver = true
    · rw [if_pos hv] at h
      obtain ⟨x, r1, h1, h2⟩ := bind_some h
      obtain ⟨y, r2, h3, h4⟩ := bind_some h2
      obtain ⟨rfl, rfl⟩ := pure_some h4
      obtain ⟨a1, a2⟩ := rd_out ver flex f (hk.1.resolve_left (by rw [hv]; exact fun h => by cases h)) hb h1
      obtain ⟨b1, b2⟩ := rd_out ver flex rest hk.2 (by omega) h3
      refine ⟨⟨fun _ => a1, b1⟩, ?_⟩
      simp only [ap, if_pos hv, List.length_append]
      omega
    · rw [if_neg hv] at h
      obtain ⟨y, r2, h3, h4⟩ := bind_some h
      obtain ⟨rfl, rfl⟩ := pure_some h4
      obtain ⟨b1, b2⟩ := rd_out ver flex rest hk.2 (by omega) h3
      refine ⟨⟨fun h => absurd h hv, b1⟩, ?_⟩
      simp only [ap, if_neg hv, List.nil_append]
      exact b2
end Go.Proofs.YtfchajjllhndlabGreatDoor

/- The reader's numbers in groups of seven bits, texts, octets, counts. -/
namespace Go.Proofs.YtfchajjllhndlabGreatDoor
open Go Go.RowKit
set_option linter.unusedVariables false

theorem and8_lo {u : UInt8} (h : u.toNat < 128) : bits BinOp.and IntKind.u8 (u.toNat : Int) 128 = 0 := by
  rw [u8and128 _ u.toNat_lt, if_pos h]
theorem and8_hi {u : UInt8} (h : ¬ u.toNat < 128) : bits BinOp.and IntKind.u8 (u.toNat : Int) 128 = 128 := by
  rw [u8and128 _ u.toNat_lt, if_neg h]
theorem and8_7 (u : UInt8) : bits BinOp.and IntKind.u8 (u.toNat : Int) 127 = ((u.toNat % 128 : Nat) : Int) := u8and127 _ u.toNat_lt
set_option maxHeartbeats 1000000 in
theorem kUvarint (O : List Nat) (w : World) (v : Value) (bs : List UInt8) (h : RB O w v bs) : Calls Tryz.prog 279 #[v] w (UvOut bs w) := by
  obtain ⟨a, cap, rfl, h1, h2, h3⟩ := h
  by_cases hne : bs = []
  · subst hne
    exact uvL0 [] w a 0 cap (by omega) (by omega) rfl
  obtain ⟨b, o, rfl, -, hc⟩ := h3 hne
  cases bs with
  | nil => exact absurd rfl hne
  | cons u0 r0 =>
    by_cases h10 : u0.toNat < 128
    · exact uvS1 (u0 :: r0) w b o (u0 :: r0).length cap u0.toNat (u0.toNat % 128) (by simp; omega) rfl (hc 0 u0 rfl) (and8_7 u0) (and8_lo h10) (by omega) (by simp [rdUv, rdUvF, h10] <;> omega)
    · cases r0 with
      | nil => exact uvL1 [u0] w b o 1 cap u0.toNat (u0.toNat % 128) (by omega) (by omega) (hc 0 u0 rfl) (and8_7 u0) (and8_hi h10) (by simp [rdUv, rdUvF, h10])
      | cons u1 r1 =>
        by_cases h11 : u1.toNat < 128
        · exact uvS2 (u0 :: u1 :: r1) w b o (u0 :: u1 :: r1).length cap u0.toNat u1.toNat (u0.toNat % 128) (u1.toNat % 128) (by simp; omega) rfl (hc 0 u0 rfl) (hc 1 u1 rfl) (and8_7 u0) (and8_hi h10) (and8_7 u1) (and8_lo h11) (by omega) (by omega) (by simp [rdUv, rdUvF, h10, h11] <;> omega)
        · cases r1 with
          | nil => exact uvL2 [u0, u1] w b o 2 cap u0.toNat u1.toNat (u0.toNat % 128) (u1.toNat % 128) (by omega) (by omega) (hc 0 u0 rfl) (hc 1 u1 rfl) (and8_7 u0) (and8_hi h10) (and8_7 u1) (and8_hi h11) (by simp [rdUv, rdUvF, h10, h11])
          | cons u2 r2 =>
            by_cases h12 : u2.toNat < 128
            · exact uvS3 (u0 :: u1 :: u2 :: r2) w b o (u0 :: u1 :: u2 :: r2).length cap u0.toNat u1.toNat u2.toNat (u0.toNat % 128) (u1.toNat % 128) (u2.toNat % 128) (by simp; omega) rfl (hc 0 u0 rfl) (hc 1 u1 rfl) (hc 2 u2 rfl) (and8_7 u0) (and8_hi h10) (and8_7 u1) (and8_hi h11) (and8_7 u2) (and8_lo h12) (by omega) (by omega) (by omega) (by simp [rdUv, rdUvF, h10, h11, h12] <;> omega)
            · cases r2 with
              | nil => exact uvL3 [u0, u1, u2] w b o 3 cap u0.toNat u1.toNat u2.toNat (u0.toNat % 128) (u1.toNat % 128) (u2.toNat % 128) (by omega) (by omega) (hc 0 u0 rfl) (hc 1 u1 rfl) (hc 2 u2 rfl) (and8_7 u0) (and8_hi h10) (and8_7 u1) (and8_hi h11) (and8_7 u2) (and8_hi h12) (by simp [rdUv, rdUvF, h10, h11, h12])
              | cons u3 r3 =>
                by_cases h13 : u3.toNat < 128
                · exact uvS4 (u0 :: u1 :: u2 :: u3 :: r3) w b o (u0 :: u1 :: u2 :: u3 :: r3).length cap u0.toNat u1.toNat u2.toNat u3.toNat (u0.toNat % 128) (u1.toNat % 128) (u2.toNat % 128) (u3.toNat % 128) (by simp; omega) rfl (hc 0 u0 rfl) (hc 1 u1 rfl) (hc 2 u2 rfl) (hc 3 u3 rfl) (and8_7 u0) (and8_hi h10) (and8_7 u1) (and8_hi h11) (and8_7 u2) (and8_hi h12) (and8_7 u3) (and8_lo h13) (by omega) (by omega) (by omega) (by omega) (by simp [rdUv, rdUvF, h10, h11, h12, h13] <;> omega)
                · cases r3 with
                  | nil => exact uvL4 [u0, u1, u2, u3] w b o 4 cap u0.toNat u1.toNat u2.toNat u3.toNat (u0.toNat % 128) (u1.toNat % 128) (u2.toNat % 128) (u3.toNat % 128) (by omega) (by omega) (hc 0 u0 rfl) (hc 1 u1 rfl) (hc 2 u2 rfl) (hc 3 u3 rfl) (and8_7 u0) (and8_hi h10) (and8_7 u1) (and8_hi h11) (and8_7 u2) (and8_hi h12) (and8_7 u3) (and8_hi h13) (by simp [rdUv, rdUvF, h10, h11, h12, h13])
                  | cons u4 r4 =>
                    by_cases h14 : u4.toNat ≤ 15
                    · exact uvS5 (u0 :: u1 :: u2 :: u3 :: u4 :: r4) w b o (u0 :: u1 :: u2 :: u3 :: u4 :: r4).length cap u0.toNat u1.toNat u2.toNat u3.toNat u4.toNat (u0.toNat % 128) (u1.toNat % 128) (u2.toNat % 128) (u3.toNat % 128) (by simp; omega) rfl (hc 0 u0 rfl) (hc 1 u1 rfl) (hc 2 u2 rfl) (hc 3 u3 rfl) (hc 4 u4 rfl) (and8_7 u0) (and8_hi h10) (and8_7 u1) (and8_hi h11) (and8_7 u2) (and8_hi h12) (and8_7 u3) (and8_hi h13) (by omega) (by omega) (by omega) (by omega) (by omega) (by omega) (by simp [rdUv, rdUvF, h10, h11, h12, h13, h14] <;> omega)
                    · exact uvOver (u0 :: u1 :: u2 :: u3 :: u4 :: r4) w b o (u0 :: u1 :: u2 :: u3 :: u4 :: r4).length cap u0.toNat u1.toNat u2.toNat u3.toNat u4.toNat (u0.toNat % 128) (u1.toNat % 128) (u2.toNat % 128) (u3.toNat % 128) (by simp; omega) (hc 0 u0 rfl) (hc 1 u1 rfl) (hc 2 u2 rfl) (hc 3 u3 rfl) (hc 4 u4 rfl) (and8_7 u0) (and8_hi h10) (and8_7 u1) (and8_hi h11) (and8_7 u2) (and8_hi h12) (and8_7 u3) (and8_hi h13) (by omega) (by simp [rdUv, rdUvF, h10, h11, h12, h13, h14])

set_option maxHeartbeats 1000000 in
theorem rUvarint : RdC Tryz.prog 270 rdUv (fun _ _ v n => v = .int .u32 (n : Nat)) (fun v => v = .int .u32 0) := by
  intro O rb w st hO hlt h
  obtain ⟨bs, a, cap, f, hB, hr, hst⟩ : ∃ (bs : List UInt8) (a : Option Addr) (cap : Nat) (f : Bool), Blk w rb [.slice a bs.length cap, .bool f] 277 ∧ RB O w (.slice a bs.length cap) bs ∧ (st = some bs ∧ f = false ∧ bs.length ≤ lim ∨ (st = none ∧ bs = [])) := by
    cases st with
    | none => exact ⟨[], none, 0, true, h, RB.nil _ _, .inr ⟨rfl, rfl⟩⟩
    | some bs =>
      obtain ⟨sv, hB, hr, hM⟩ := h
      obtain ⟨a, cap, rfl, h1, h2, h3⟩ := id hr
      exact ⟨bs, a, cap, false, hB, hr, .inl ⟨rfl, rfl, hM⟩⟩
  have m0 := hB.cell_some (i := 0) rfl
  have f0 := hB.frozen 0
  have f1 := hB.frozen 1
  have m1 := hB.cell_some (i := 1) rfl
  have UV := Lib.hid (kUvarint O w _ bs hr)
  have Z := Lib.hid (And.intro hB (And.intro hr hst))
  obtain ⟨a', cap', e', hc1, hc2, -⟩ := id hr
  cases e'
  clear hB hr hst h hlt
  generalize hn : bs.length = n at *
  have N := Lib.hid hn
  clear hn
  go_enter Tryz.func270, Tryz.ntmps270
  go_wp2_with fail
  refine UV.out.mono ?_
  rintro e w' (⟨hk, hr, rfl, rfl⟩ | ⟨hk, hr, rfl, rfl⟩)
  · rename_i x k
    have hn := N.out
    rw [hn] at hk
    have k0 : (0 : Int) < k := by omega
    have k1 : (k : Int) ≤ n := by omega
    have HR := Lib.hid (And.intro hk hr)
    clear hr hk hn
    go_wp2
    all_goals go_ret
    all_goals
      obtain ⟨hB, hrb, hst⟩ := Z.out
      rcases hst with ⟨rfl, rfl, hM⟩ | ⟨rfl, rfl⟩
      · have hn := N.out
        subst hn
        exact .good HR.out.2 (Rdr.advG hM hO hB hrb (k := k) HR.out.1.2 (by first | exact .inl rfl | exact .inr ⟨by first | rfl | assumption, rfl⟩)) rfl
      · exact absurd HR.out.2 (by simp [rdUv, rdUvF])
  · rename_i k
    have HR := Lib.hid hr
    clear hr
    go_wp2
    go_ret
    obtain ⟨hB, hrb, hst⟩ := Z.out
    have hf := Rdr.fail (O := O) (T := 0) (N.out ▸ hB)
    refine .bad ?_ hf.1 hf.2 rfl
    rcases hst with ⟨rfl, rfl, hM⟩ | ⟨rfl, rfl⟩
    · exact HR.out
    · rfl
theorem fold_push (bs : List UInt8) : ∀ acc : ByteArray, (bs.map fun u => ((u.toNat : Nat) : Int)).foldl (fun r n => r.push (UInt8.ofNat n.toNat)) acc = ⟨acc.data ++ bs.toArray⟩ := by
  induction bs with
  | nil => intro acc; simp
  | cons u l ih =>
    intro acc
    simp only [List.map_cons, List.foldl_cons]
    rw [ih]
    congr 1
    simp [ByteArray.push]
theorem run_str {P : Program} {O : List Nat} {w : World} {v : Value} {bs : List UInt8} (h : RB O w v bs) : (Conv.bytesToString v).run P w = .ok (.string ⟨bs.toArray⟩) w := by
  obtain ⟨a, cap, rfl, h1, h2, h3⟩ := h
  have key : ∀ ad : Addr, (loadCells ad bs.length).run P w = .ok (bs.map byteV).toArray w → (Conv.bytesToString (.slice (some ad) bs.length cap)).run P w = .ok (.string ⟨bs.toArray⟩) w := by
    intro ad hl
    have hm : bs.map byteV = (bs.map fun u => ((u.toNat : Nat) : Int)).map (Value.int .u8) := by
      rw [List.map_map]
      rfl
    rw [hm] at hl
    rw [run_bytesToString w ad bs.length cap _ hl, fold_push]
    simp
  cases a with
  | none =>
    have hn : bs = [] := by
      by_cases hne : bs = []
      · exact hne
      · obtain ⟨b, o, hab, -⟩ := h3 hne
        cases hab
    subst hn
    simp [Conv.bytesToString]
    rfl
  | some ad =>
    by_cases hne : bs = []
    · subst hne
      exact key ad (run_loadCells_list (P := P) w ad [] (fun j v hj => by simp at hj))
    · obtain ⟨b, o, hab, -, hc⟩ := h3 hne
      cases hab
      refine key _ ?_
      have := run_loadCells_list (P := P) w ⟨b, o, none⟩ (bs.map byteV) (fun j v hj => by
        rw [List.getElem?_map] at hj
        cases hbj : bs[j]? with
        | none => simp [hbj] at hj
        | some c =>
          rw [hbj] at hj
          cases hj
          rw [Addr.add_lit]
          exact hc j c hbj)
      simpa using this
/-- Octets as a text. -/
theorem run_conv {O : List Nat} {w : World} {v : Value} {bs : List UInt8} (h : RB O w v bs) : (convert 22 9 v).run Tryz.prog w = .ok (.string ⟨bs.toArray⟩) w := by
  have h2 := run_str (P := Tryz.prog) h
  obtain ⟨a, cap, rfl, -, -, -⟩ := h
  rw [run_convert_bytes_string w _ _ 5 a _ cap Tryz.underlying22 Tryz.underlying5 Tryz.underlying9]
  exact h2
theorem hlt_on {O O' : List Nat} {w w1 : World} (hlt : ∀ k, k ∈ O → k < w.heap.size) (hk : Keeps O' w w1) : ∀ k, k ∈ O → k < w1.heap.size := fun k hk' => Nat.lt_of_lt_of_le (hlt k hk') hk.size
theorem int_bounds {k : Nat} {m n : Int} {st : Option (List UInt8)} {r : List UInt8} (hm : 0 < m) (h : st.bind (rdInt k m) = some (n, r)) : -m ≤ n ∧ n < m := by
  cases st with
  | none => cases h
  | some bs =>
    obtain ⟨l, r', h1, h2⟩ := bind_some (p := rdNat k) h
    simp only [Pr.pure, Option.some.injEq, Prod.mk.injEq] at h2
    obtain ⟨rfl, rfl⟩ := h2
    have h3 := Int.emod_nonneg ((l : Int) + m) (b := 2 * m) (by omega)
    have h4 := Int.emod_lt_of_pos ((l : Int) + m) (b := 2 * m) (by omega)
    constructor <;> (unfold sg; omega)
theorem bind_st {α β : Type} (st : Option (List UInt8)) (p : Pr α) (f : α → Pr β) : st.bind (p.bind f) = (st.bind p).bind fun q => f q.1 q.2 := by
  cases st with
  | none => rfl
  | some bs =>
    change p.bind f bs = (p bs).bind _
    unfold Pr.bind
    cases p bs with
    | none => rfl
    | some q => rfl
theorem span_out {O : List Nat} {w : World} {rb : Nat} {l : Int} {r r2 s : List UInt8} (h : Rdr O w rb (some r)) (hy : rdSpan l r = some (s, r2)) : s.length ≤ lim ∧ (s.length : Int) = l := by
  obtain ⟨sv, -, -, hM⟩ := h
  unfold rdSpan at hy
  split at hy
  · cases hy
  · unfold rdTake at hy
    split at hy
    · simp only [Option.some.injEq, Prod.mk.injEq] at hy
      obtain ⟨rfl, rfl⟩ := hy
      rw [List.length_take]
      omega
    · cases hy
theorem str_false : rdStr false = (rdInt 2 32768).bind fun n => (rdSpan n).bind fun s => .pure (.bytes s) := by
  unfold rdStr
  simp only [Bool.false_eq_true, if_false]
  congr 1
  funext n
  unfold rdSpan
  split
  · rfl
  · rfl
theorem str_true : rdStr true = rdUv.bind fun n => (rdSpan ((n : Int) - 1)).bind fun s => .pure (.bytes s) := by
  unfold rdStr
  simp only [if_true]
  congr 1
  funext n
  unfold rdSpan
  by_cases hn : n = 0
  · rw [if_pos hn, if_pos (by omega)]
    rfl
  · rw [if_neg hn, if_neg (by omega), show ((n : Int) - 1).toNat = n - 1 by omega]
set_option maxRecDepth 100000 in
set_option maxHeartbeats 1000000 in
theorem rString : RdC Tryz.prog 228 (rdStr false) (fun O w v g => LV O w false v .str g) (fun v => v = .string ⟨#[]⟩) := by
  intro O rb w st hO hlt h
  have C1 := Lib.hid (rInt16 O rb w st hO hlt h)
  clear h
  go_enter Tryz.func228, Tryz.ntmps228
  go_wp2_with fail
  refine C1.out.mono ?_
  rintro e w1 ⟨v, rfl, h1, hk1, hD, hV⟩
  clear C1
  rcases hx : st.bind (rdInt 2 32768) with _ | ⟨n, r⟩
  · obtain rfl := hD hx
    rw [hx] at h1
    have C2 := Lib.hid (rSpan O rb w1 none 0 hO (hlt_on hlt hk1) h1)
    have X := Lib.hid (And.intro hx hk1)
    clear hD hV h1 hx hlt hk1
    go_wp2_with fail
    refine C2.out.mono ?_
    rintro e w2 ⟨v, rfl, h2, hk2, hD, hV⟩
    obtain rfl := hD rfl
    have hcv := run_conv (RB.nil O w2)
    have Z := Lib.hid (And.intro h2 hk2)
    clear hD hV h2 hk2
    go_wp2
    go_ret
    refine .bad ?_ Z.out.1 (X.out.2.trans Z.out.2) rfl
    rw [str_false, bind_st, X.out.1]
    rfl
  · obtain rfl := hV _ _ hx
    rw [hx] at h1
    have C2 := Lib.hid (rSpan O rb w1 (some r) n hO (hlt_on hlt hk1) h1)
    have H1 := Lib.hid h1
    have hn := int_bounds (by omega) hx
    have X := Lib.hid (And.intro hx hk1)
    clear hD hV h1 hx hk1 hlt
    go_wp2_with fail
    refine C2.out.mono ?_
    rintro e w2 ⟨v, rfl, h2, hk2, hD, hV⟩
    rcases hy : rdSpan n r with _ | ⟨s, r2⟩
    · obtain rfl := hD hy
      have hcv := run_conv (RB.nil O w2)
      rw [show (some r).bind (rdSpan n) = none from hy] at h2
      have Z := Lib.hid (And.intro h2 (And.intro hk2 hy))
      clear hD hV h2 hk2 hy
      go_wp2
      go_ret
      refine .bad ?_ Z.out.1 (X.out.2.trans Z.out.2.1) rfl
      rw [str_false, bind_st, X.out.1]
      exact bind_none Z.out.2.2
    · have hcv := run_conv (hV _ _ hy)
      rw [show (some r).bind (rdSpan n) = some (s, r2) from hy] at h2
      have Z := Lib.hid (And.intro h2 (And.intro hk2 hy))
      clear hD hV h2 hk2 hy
      go_wp2
      go_ret
      have hst : st.bind (rdStr false) = some (.bytes s, r2) := by
        rw [str_false, bind_st, X.out.1]
        exact bind_eq Z.out.2.2
      obtain ⟨l1, l2⟩ := span_out H1.out Z.out.2.2
      refine ⟨_, rfl, by rw [hst]; exact Z.out.1, X.out.2.trans Z.out.2.1, fun h => by rw [hst] at h; (cases h), fun x r' h => ?_⟩
      rw [hst] at h
      cases h
      exact ⟨rfl, by simp [strMax]; omega⟩
set_option maxRecDepth 100000 in
set_option maxHeartbeats 1000000 in
theorem rCompactString : RdC Tryz.prog 227 (rdStr true) (fun O w v g => LV O w true v .str g) (fun v => v = .string ⟨#[]⟩) := by
  intro O rb w st hO hlt h
  have C1 := Lib.hid (rUvarint O rb w st hO hlt h)
  clear h
  go_enter Tryz.func227, Tryz.ntmps227
  go_wp2_with fail
  refine C1.out.mono ?_
  rintro e w1 ⟨v, rfl, h1, hk1, hD, hV⟩
  clear C1
  rcases hx : st.bind rdUv with _ | ⟨n, r⟩
  · obtain rfl := hD hx
    rw [hx] at h1
    have C2 := Lib.hid (rSpan O rb w1 none (-1) hO (hlt_on hlt hk1) h1)
    have X := Lib.hid (And.intro hx hk1)
    clear hD hV h1 hx hlt hk1
    go_wp2_with fail
    refine C2.out.mono ?_
    rintro e w2 ⟨v, rfl, h2, hk2, hD, hV⟩
    obtain rfl := hD rfl
    have hcv := run_conv (RB.nil O w2)
    have Z := Lib.hid (And.intro h2 hk2)
    clear hD hV h2 hk2
    go_wp2
    go_ret
    refine .bad ?_ Z.out.1 (X.out.2.trans Z.out.2) rfl
    rw [str_true, bind_st, X.out.1]
    rfl
  · obtain rfl := hV _ _ hx
    rw [hx] at h1
    have C2 := Lib.hid (rSpan O rb w1 (some r) ((n : Int) - 1) hO (hlt_on hlt hk1) h1)
    have H1 := Lib.hid h1
    have hn : n ≤ 4294967295 := by
      cases st with
      | none => cases hx
      | some bs => exact (out_uv hx).1
    have X := Lib.hid (And.intro hx hk1)
    clear hD hV h1 hx hk1 hlt
    go_wp2_with fail
    refine C2.out.mono ?_
    rintro e w2 ⟨v, rfl, h2, hk2, hD, hV⟩
    rcases hy : rdSpan ((n : Int) - 1) r with _ | ⟨s, r2⟩
    · obtain rfl := hD hy
      have hcv := run_conv (RB.nil O w2)
      rw [show (some r).bind (rdSpan ((n : Int) - 1)) = none from hy] at h2
      have Z := Lib.hid (And.intro h2 (And.intro hk2 hy))
      clear hD hV h2 hk2 hy
      go_wp2
      go_ret
      refine .bad ?_ Z.out.1 (X.out.2.trans Z.out.2.1) rfl
      rw [str_true, bind_st, X.out.1]
      exact bind_none Z.out.2.2
    · have hcv := run_conv (hV _ _ hy)
      rw [show (some r).bind (rdSpan ((n : Int) - 1)) = some (s, r2) from hy] at h2
      have Z := Lib.hid (And.intro h2 (And.intro hk2 hy))
      clear hD hV h2 hk2 hy
      go_wp2
      go_ret
      have hst : st.bind (rdStr true) = some (.bytes s, r2) := by
        rw [str_true, bind_st, X.out.1]
        exact bind_eq Z.out.2.2
      obtain ⟨l1, l2⟩ := span_out H1.out Z.out.2.2
      refine ⟨_, rfl, by rw [hst]; exact Z.out.1, X.out.2.trans Z.out.2.1, fun h => by rw [hst] at h; (cases h), fun x r' h => ?_⟩
      rw [hst] at h
      cases h
      exact ⟨rfl, by simp [strMax]; omega⟩
end Go.Proofs.YtfchajjllhndlabGreatDoor

/- The reader's texts that may be null, octets, counts, the end. -/
namespace Go.Proofs.YtfchajjllhndlabGreatDoor
open Go Go.RowKit
set_option linter.unusedVariables false

theorem nstr_false : rdNStr false = (rdInt 2 32768).bind fun n => if n < 0 then .pure .null else (rdSpan n).bind fun s => .pure (.bytes s) := by
  unfold rdNStr
  simp only [Bool.false_eq_true, if_false]
  congr 1
  funext n
  unfold rdSpan
  by_cases hn : n < 0
  · rw [if_pos hn, if_pos hn]
  · rw [if_neg hn, if_neg hn, if_neg hn]
theorem nstr_true : rdNStr true = rdUv.bind fun n => if (n : Int) - 1 < 0 then .pure .null else (rdSpan ((n : Int) - 1)).bind fun s => .pure (.bytes s) := by
  unfold rdNStr
  simp only [if_true]
  congr 1
  funext n
  unfold rdSpan
  by_cases hn : n = 0
  · rw [if_pos hn, if_pos (by omega)]
  · rw [if_neg hn, if_neg (by omega), if_neg (by omega), show ((n : Int) - 1).toNat = n - 1 by omega]
theorem bytes_false : rdBytes false = (rdInt 4 2147483648).bind fun n => if n = -1 then .pure (.bytes []) else (rdSpan n).bind fun s => .pure (.bytes s) := by
  unfold rdBytes
  simp only [Bool.false_eq_true, if_false]
  congr 1
  funext n
  unfold rdSpan
  by_cases hn : n = -1
  · rw [if_pos hn, if_pos hn]
  · rw [if_neg hn, if_neg hn]
    split
    · rfl
    · rfl
theorem bytes_true : rdBytes true = rdUv.bind fun n => if (n : Int) - 1 = -1 then .pure (.bytes []) else (rdSpan ((n : Int) - 1)).bind fun s => .pure (.bytes s) := by
  unfold rdBytes
  simp only [if_true]
  congr 1
  funext n
  unfold rdSpan
  by_cases hn : n = 0
  · rw [if_pos hn, if_pos (by omega)]
  · rw [if_neg hn, if_neg (by omega), if_neg (by omega), show ((n : Int) - 1).toNat = n - 1 by omega]
theorem Rdr.alloc {O : List Nat} {w : World} {rb : Nat} {st : Option (List UInt8)} (h : Rdr O w rb st) (o : Obj) : Rdr O (w.alloc o) rb st := h.other (O' := []) ((Keeps.refl [] w).alloc o) (by simp) (by simp)
theorem new_notin {O : List Nat} {w : World} (hlt : ∀ k, k ∈ O → k < w.heap.size) : w.heap.size ∉ O := fun h => Nat.lt_irrefl _ (hlt _ h)
set_option maxRecDepth 100000 in
set_option maxHeartbeats 1000000 in
theorem rNullableString : RdC Tryz.prog 223 (rdNStr false) (fun O w v g => LV O w false v .nstr g) (fun v => ∃ a, v = .pointer a) := by
  intro O rb w st hO hlt h
  have C1 := Lib.hid (rInt16 O rb w st hO hlt h)
  clear h
  go_enter Tryz.func223, Tryz.ntmps223
  go_wp2_with fail
  refine C1.out.mono ?_
  rintro e w1 ⟨v, rfl, h1, hk1, hD, hV⟩
  clear C1
  rcases hx : st.bind (rdInt 2 32768) with _ | ⟨n, r⟩
  · obtain rfl := hD hx
    rw [hx] at h1
    have C2 := Lib.hid (rSpan O rb w1 none 0 hO (hlt_on hlt hk1) h1)
    have X := Lib.hid (And.intro hx hk1)
    clear hD hV h1 hx hlt hk1
    go_wp2_with fail
    refine C2.out.mono ?_
    rintro e w2 ⟨v, rfl, h2, hk2, hD, hV⟩
    obtain rfl := hD rfl
    have hcv := run_conv (RB.nil O w2)
    have Z := Lib.hid (And.intro h2 hk2)
    clear hD hV h2 hk2
    go_wp2
    go_ret
    refine .bad ?_ (Z.out.1.alloc _) ((X.out.2.trans Z.out.2).alloc _) ⟨_, rfl⟩
    rw [nstr_false, bind_st, X.out.1]
    rfl
  · obtain rfl := hV _ _ hx
    rw [hx] at h1
    have hn := int_bounds (by omega) hx
    by_cases ht : n < 0
    · have X := Lib.hid (And.intro hx (And.intro hk1 h1))
      clear hD hV h1 hx hk1 hlt
      go_wp2
      go_ret
      have hst : st.bind (rdNStr false) = some (.null, r) := by
        rw [nstr_false, bind_st, X.out.1]
        change (if n < 0 then _ else _ : Pr GV) r = _
        rw [if_pos (by omega)]
        rfl
      refine ⟨_, rfl, by rw [hst]; exact X.out.2.2, X.out.2.1, fun h => by rw [hst] at h; (cases h), fun x r' h => ?_⟩
      rw [hst] at h
      cases h
      rfl
    · have C2 := Lib.hid (rSpan O rb w1 (some r) n hO (hlt_on hlt hk1) h1)
      have H1 := Lib.hid h1
      have X := Lib.hid (And.intro hx (And.intro hk1 hlt))
      clear hD hV h1 hx hk1 hlt
      go_wp2_with fail
      refine C2.out.mono ?_
      rintro e w2 ⟨v, rfl, h2, hk2, hD, hV⟩
      rcases hy : rdSpan n r with _ | ⟨s, r2⟩
      · obtain rfl := hD hy
        have hcv := run_conv (RB.nil O w2)
        rw [show (some r).bind (rdSpan n) = none from hy] at h2
        have Z := Lib.hid (And.intro h2 (And.intro hk2 hy))
        clear hD hV h2 hk2 hy
        go_wp2
        go_ret
        refine .bad ?_ (Z.out.1.alloc _) ((X.out.2.1.trans Z.out.2.1).alloc _) ⟨_, rfl⟩
        rw [nstr_false, bind_st, X.out.1]
        change (if n < 0 then _ else _ : Pr GV) r = _
        rw [if_neg (by omega)]
        exact bind_none Z.out.2.2
      · have hlt2 := hlt_on (hlt_on X.out.2.2 X.out.2.1) hk2
        have hcv := run_conv (hV _ _ hy)
        rw [show (some r).bind (rdSpan n) = some (s, r2) from hy] at h2
        have Z := Lib.hid (And.intro h2 (And.intro hk2 (And.intro hy hlt2)))
        clear hD hV h2 hk2 hy hlt2
        go_wp2
        go_ret
        have hst : st.bind (rdNStr false) = some (.bytes s, r2) := by
          rw [nstr_false, bind_st, X.out.1]
          change (if n < 0 then _ else _ : Pr GV) r = _
          rw [if_neg (by omega)]
          exact bind_eq Z.out.2.2.1
        obtain ⟨l1, l2⟩ := span_out H1.out Z.out.2.2.1
        refine ⟨_, rfl, by rw [hst]; exact Z.out.1.alloc _, (X.out.2.1.trans Z.out.2.1).alloc _, fun h => by rw [hst] at h; (cases h), fun x r' h => ?_⟩
        rw [hst] at h
        cases h
        exact ⟨⟨w2.heap.size, 0, rfl, new_notin Z.out.2.2.2, (Blk.alloc_new w2 [_] _).cell_some (i := 0) rfl⟩, by simp [strMax]; omega⟩
set_option maxRecDepth 100000 in
set_option maxHeartbeats 1000000 in
theorem rCompactNullableString : RdC Tryz.prog 221 (rdNStr true) (fun O w v g => LV O w true v .nstr g) (fun v => ∃ a, v = .pointer a) := by
  intro O rb w st hO hlt h
  have C1 := Lib.hid (rUvarint O rb w st hO hlt h)
  clear h
  go_enter Tryz.func221, Tryz.ntmps221
  go_wp2_with fail
  refine C1.out.mono ?_
  rintro e w1 ⟨v, rfl, h1, hk1, hD, hV⟩
  clear C1
  rcases hx : st.bind rdUv with _ | ⟨n, r⟩
  · obtain rfl := hD hx
    rw [hx] at h1
    have X := Lib.hid (And.intro hx (And.intro hk1 h1))
    clear hD hV h1 hx hlt hk1
    go_wp2
    go_ret
    refine .bad ?_ X.out.2.2 X.out.2.1 ⟨_, rfl⟩
    rw [nstr_true, bind_st, X.out.1]
    rfl
  · obtain rfl := hV _ _ hx
    rw [hx] at h1
    have hn : n ≤ 4294967295 := by
      cases st with
      | none => cases hx
      | some bs => exact (out_uv hx).1
    by_cases ht : ((n : Int) - 1) < 0
    · have X := Lib.hid (And.intro hx (And.intro hk1 h1))
      clear hD hV h1 hx hk1 hlt
      go_wp2
      go_ret
      have hst : st.bind (rdNStr true) = some (.null, r) := by
        rw [nstr_true, bind_st, X.out.1]
        change (if ((n : Int) - 1) < 0 then _ else _ : Pr GV) r = _
        rw [if_pos (by omega)]
        rfl
      refine ⟨_, rfl, by rw [hst]; exact X.out.2.2, X.out.2.1, fun h => by rw [hst] at h; (cases h), fun x r' h => ?_⟩
      rw [hst] at h
      cases h
      rfl
    · have C2 := Lib.hid (rSpan O rb w1 (some r) ((n : Int) - 1) hO (hlt_on hlt hk1) h1)
      have H1 := Lib.hid h1
      have X := Lib.hid (And.intro hx (And.intro hk1 hlt))
      clear hD hV h1 hx hk1 hlt
      go_wp2_with fail
      refine C2.out.mono ?_
      rintro e w2 ⟨v, rfl, h2, hk2, hD, hV⟩
      rcases hy : rdSpan ((n : Int) - 1) r with _ | ⟨s, r2⟩
      · obtain rfl := hD hy
        have hcv := run_conv (RB.nil O w2)
        rw [show (some r).bind (rdSpan ((n : Int) - 1)) = none from hy] at h2
        have Z := Lib.hid (And.intro h2 (And.intro hk2 hy))
        clear hD hV h2 hk2 hy
        go_wp2
        go_ret
        refine .bad ?_ (Z.out.1.alloc _) ((X.out.2.1.trans Z.out.2.1).alloc _) ⟨_, rfl⟩
        rw [nstr_true, bind_st, X.out.1]
        change (if ((n : Int) - 1) < 0 then _ else _ : Pr GV) r = _
        rw [if_neg (by omega)]
        exact bind_none Z.out.2.2
      · have hlt2 := hlt_on (hlt_on X.out.2.2 X.out.2.1) hk2
        have hcv := run_conv (hV _ _ hy)
        rw [show (some r).bind (rdSpan ((n : Int) - 1)) = some (s, r2) from hy] at h2
        have Z := Lib.hid (And.intro h2 (And.intro hk2 (And.intro hy hlt2)))
        clear hD hV h2 hk2 hy hlt2
        go_wp2
        go_ret
        have hst : st.bind (rdNStr true) = some (.bytes s, r2) := by
          rw [nstr_true, bind_st, X.out.1]
          change (if ((n : Int) - 1) < 0 then _ else _ : Pr GV) r = _
          rw [if_neg (by omega)]
          exact bind_eq Z.out.2.2.1
        obtain ⟨l1, l2⟩ := span_out H1.out Z.out.2.2.1
        refine ⟨_, rfl, by rw [hst]; exact Z.out.1.alloc _, (X.out.2.1.trans Z.out.2.1).alloc _, fun h => by rw [hst] at h; (cases h), fun x r' h => ?_⟩
        rw [hst] at h
        cases h
        exact ⟨⟨w2.heap.size, 0, rfl, new_notin Z.out.2.2.2, (Blk.alloc_new w2 [_] _).cell_some (i := 0) rfl⟩, by simp [strMax]; omega⟩

theorem sgw64 (n : Int) : sg 9223372036854775808 n = Go.RowKit.wrap64 n := by
  unfold sg Go.RowKit.wrap64
  omega
set_option maxHeartbeats 1000000 in
theorem rInt64 : RdC Tryz.prog 242 (rdInt 8 9223372036854775808) (fun _ _ v n => v = .int .i64 n) (fun v => v = .int .i64 0) := by
  intro O rb w st hO hlt h
  have C1 := Lib.hid (rReadUint64 O rb w st hO hlt h)
  clear h
  go_enter Tryz.func242, Tryz.ntmps242
  go_wp2_with fail
  refine C1.out.mono ?_
  rintro e w1 ⟨v, rfl, h1, hk1, hD, hV⟩
  clear C1
  have e0 : st.bind (rdInt 8 9223372036854775808) = (st.bind (rdNat 8)).bind fun q => some (sg 9223372036854775808 q.1, q.2) := bind_st st (rdNat 8) _
  rcases hx : st.bind (rdNat 8) with _ | ⟨n, r⟩
  · obtain rfl := hD hx
    rw [hx] at h1 e0
    have X := Lib.hid (And.intro e0 (And.intro hk1 h1))
    clear hD hV h1 hx hlt hk1 e0
    go_wp2
    go_ret
    exact .bad X.out.1 X.out.2.2 X.out.2.1 rfl
  · obtain rfl := hV _ _ hx
    rw [hx] at h1 e0
    have X := Lib.hid (And.intro e0 (And.intro hk1 h1))
    clear hD hV h1 hx hlt hk1 e0
    go_wp2
    go_ret
    have hst : st.bind (rdInt 8 9223372036854775808) = some (sg 9223372036854775808 n, r) := X.out.1
    refine ⟨_, rfl, by rw [hst]; exact X.out.2.2, X.out.2.1, fun h => by rw [hst] at h; (cases h), fun x r' h => ?_⟩
    rw [hst] at h
    simp only [Option.some.injEq, Prod.mk.injEq] at h
    obtain ⟨rfl, rfl⟩ := h
    exact congrArg (Value.int .i64) (sgw64 n).symm
theorem sgw32 (n : Int) : sg 2147483648 n = Go.RowKit.wrap32 n := by
  unfold sg Go.RowKit.wrap32
  omega
theorem count_true : rdCount true = rdUv.bind fun n => .pure (Go.RowKit.wrap32 (Go.RowKit.wrap32 (n : Nat) - 1)) := by
  have h : rdCount true = rdUv.bind fun n : Nat => Pr.pure (sg 2147483648 (sg 2147483648 n - 1)) := if_pos rfl
  rw [h]
  exact congrArg (Pr.bind rdUv) (funext fun n => by rw [sgw32, sgw32])
theorem count_len (flex : Bool) (st : Option (List UInt8)) : st.bind (rdLen flex) = (st.bind (rdCount flex)).bind fun q => if (q.2.length : Int) < q.1 then none else some q := bind_st st (rdCount flex) _
set_option maxRecDepth 100000 in
set_option maxHeartbeats 1000000 in
theorem rArrayLen : RdC Tryz.prog 207 (rdLen false) (fun _ _ v n => v = .int .i32 n) (fun v => ∃ n, v = .int .i32 n) := by
  intro O rb w st hO hlt h
  have C1 := Lib.hid (rInt32 O rb w st hO hlt h)
  clear h
  go_enter Tryz.func207, Tryz.ntmps207
  go_wp2_with fail
  refine C1.out.mono ?_
  rintro e w1 ⟨v, rfl, h1, hk1, hD, hV⟩
  clear C1
  have ec : st.bind (rdCount false) = (st.bind (rdInt 4 2147483648)).bind fun q => some (q.1, q.2) := by
    unfold rdCount; simp only [Bool.false_eq_true, if_false]; cases st.bind (rdInt 4 2147483648) <;> rfl
  have e0 := count_len false st
  rw [ec] at e0
  rcases hx : st.bind (rdInt 4 2147483648) with _ | ⟨n, r⟩
  · obtain rfl := hD hx
    rw [hx] at h1 e0
    have hB : Blk w1 rb [.slice none 0 0, .bool true] 277 := h1
    have m0 := hB.cell_some (i := 0) rfl
    have X := Lib.hid (And.intro e0 (And.intro hk1 h1))
    clear hD hV h1 hx hlt hk1 e0 hB ec
    go_wp2
    go_ret
    exact .bad X.out.1 X.out.2.2 X.out.2.1 ⟨_, rfl⟩
  · obtain rfl := hV _ _ hx
    rw [hx] at h1 e0
    obtain ⟨sv, hB, ⟨a, cap, rfl, c1, c2, -⟩, hM⟩ := id h1
    have m0 := hB.cell_some (i := 0) rfl
    have m1 := hB.cell_some (i := 1) rfl
    have f0 := hB.frozen 0
    have f1 := hB.frozen 1
    have hv := int_bounds (by omega) hx
    change _ = if (r.length : Int) < n then none else some (n, r) at e0
    have F := Lib.hid (Rdr.fail (O := O) (T := 0) hB)
    by_cases ht : (r.length : Int) < n
    · rw [if_pos ht] at e0
      have X := Lib.hid (And.intro e0 (And.intro hk1 h1))
      clear hD hV h1 hx hlt hk1 e0 hB ec
      generalize r.length = k at *
      go_wp2
      go_ret
      exact .bad X.out.1 F.out.1 (X.out.2.1.trans F.out.2) ⟨_, rfl⟩
    · rw [if_neg ht] at e0
      have X := Lib.hid (And.intro e0 (And.intro hk1 h1))
      clear hD hV h1 hx hlt hk1 e0 hB ec F
      generalize r.length = k at *
      go_wp2
      go_ret
      have hst := X.out.1
      refine ⟨_, rfl, by rw [hst]; exact X.out.2.2, X.out.2.1, fun h => by rw [hst] at h; (cases h), fun x r' h => ?_⟩
      rw [hst] at h
      simp only [Option.some.injEq, Prod.mk.injEq] at h
      obtain ⟨rfl, rfl⟩ := h
      rfl
set_option maxRecDepth 100000 in
set_option maxHeartbeats 1000000 in
theorem rCompactArrayLen : RdC Tryz.prog 206 (rdLen true) (fun _ _ v n => v = .int .i32 n) (fun v => ∃ n, v = .int .i32 n) := by
  intro O rb w st hO hlt h
  have C1 := Lib.hid (rUvarint O rb w st hO hlt h)
  clear h
  go_enter Tryz.func206, Tryz.ntmps206
  go_wp2_with fail
  refine C1.out.mono ?_
  rintro e w1 ⟨v, rfl, h1, hk1, hD, hV⟩
  clear C1
  have ec : st.bind (rdCount true) = (st.bind rdUv).bind fun q => some ((Go.RowKit.wrap32 (Go.RowKit.wrap32 (q.1 : Nat) - 1)), q.2) := by
    rw [count_true]; exact bind_st st rdUv _
  have e0 := count_len true st
  rw [ec] at e0
  rcases hx : st.bind rdUv with _ | ⟨n, r⟩
  · obtain rfl := hD hx
    rw [hx] at h1 e0
    have hB : Blk w1 rb [.slice none 0 0, .bool true] 277 := h1
    have m0 := hB.cell_some (i := 0) rfl
    have X := Lib.hid (And.intro e0 (And.intro hk1 h1))
    clear hD hV h1 hx hlt hk1 e0 hB ec
    go_wp2
    go_ret
    exact .bad X.out.1 X.out.2.2 X.out.2.1 ⟨_, rfl⟩
  · obtain rfl := hV _ _ hx
    rw [hx] at h1 e0
    obtain ⟨sv, hB, ⟨a, cap, rfl, c1, c2, -⟩, hM⟩ := id h1
    have m0 := hB.cell_some (i := 0) rfl
    have m1 := hB.cell_some (i := 1) rfl
    have f0 := hB.frozen 0
    have f1 := hB.frozen 1
    have hn : n ≤ 4294967295 := by
      cases st with
      | none => cases hx
      | some bs => exact (out_uv hx).1
    have hv : -2147483648 ≤ Go.RowKit.wrap32 (Go.RowKit.wrap32 ((n : Nat) : Int) - 1) ∧ Go.RowKit.wrap32 (Go.RowKit.wrap32 ((n : Nat) : Int) - 1) < 2147483648 := by unfold Go.RowKit.wrap32; omega
    have hw : Go.RowKit.wrap64 (Go.RowKit.wrap32 (Go.RowKit.wrap32 ((n : Nat) : Int) - 1)) = Go.RowKit.wrap32 (Go.RowKit.wrap32 ((n : Nat) : Int) - 1) := by unfold Go.RowKit.wrap64; omega
    rw [Option.bind_some, Option.bind_some] at e0
    obtain ⟨m, hm⟩ : ∃ m, Go.RowKit.wrap32 (Go.RowKit.wrap32 ((n : Nat) : Int) - 1) = m := ⟨_, rfl⟩
    simp only [hm] at e0 hv hw
    have F := Lib.hid (Rdr.fail (O := O) (T := 0) hB)
    by_cases ht : (r.length : Int) < m
    · rw [if_pos ht] at e0
      have X := Lib.hid (And.intro e0 (And.intro hk1 h1))
      clear hD hV h1 hx hlt hk1 e0 hB ec
      generalize r.length = k at *
      go_wp2
      go_ret
      exact .bad X.out.1 F.out.1 (X.out.2.1.trans F.out.2) ⟨_, rfl⟩
    · rw [if_neg ht] at e0
      have X := Lib.hid (And.intro e0 (And.intro hk1 h1))
      clear hD hV h1 hx hlt hk1 e0 hB ec F
      generalize r.length = k at *
      go_wp2
      go_ret
      have hst := X.out.1
      refine ⟨_, rfl, by rw [hst]; exact X.out.2.2, X.out.2.1, fun h => by rw [hst] at h; (cases h), fun x r' h => ?_⟩
      rw [hst] at h
      simp only [Option.some.injEq, Prod.mk.injEq] at h
      obtain ⟨rfl, rfl⟩ := h
      exact congrArg (Value.int .i32) hm
set_option maxHeartbeats 1000000 in
theorem rOk (O : List Nat) (rb : Nat) (w : World) (st : Option (List UInt8)) (h : Rdr O w rb st) : Calls Tryz.prog 208 #[.pointer (some ⟨rb, 0, none⟩)] w fun e w' => e = .returned (.bool st.isSome) ∧ w = w' := by
  obtain ⟨sv, hB⟩ := h.blk
  have m1 := hB.cell_some (i := 1) rfl
  clear hB h
  cases st <;>
  · go_enter Tryz.func208, Tryz.ntmps208
    go_wp2
    go_ret
    exact ⟨rfl, rfl⟩
set_option maxHeartbeats 1000000 in
theorem rComplete (O : List Nat) (rb : Nat) (w : World) (st : Option (List UInt8)) (E : Value) (h : Rdr O w rb st) (hE : w.cell? ⟨1, 0, none⟩ = some E) : Calls Tryz.prog 209 #[.pointer (some ⟨rb, 0, none⟩)] w fun e w' => e = .returned (if st.isSome then .nilIface else E) ∧ w = w' := by
  obtain ⟨sv, hB⟩ := h.blk
  have m1 := hB.cell_some (i := 1) rfl
  clear hB h
  cases st <;>
  · go_enter Tryz.func209, Tryz.ntmps209
    go_wp2
    go_ret
    exact ⟨rfl, rfl⟩
end Go.Proofs.YtfchajjllhndlabGreatDoor

/- The code that reads a part reads just what 'rd' says, and lays it in memory: one rule for each form of the generated code. -/
namespace Go.Proofs.YtfchajjllhndlabGreatDoor
open Go Go.RowKit
set_option linter.unusedVariables false

/-- A value of one cell. -/
def One (x : Value) : Prop := x.cells = #[x] ∧ x.oneCell' = true
theorem LV.one {O : List Nat} {w : World} {flex : Bool} {x : Value} {k : Leaf} {v : GV} (h : LV O w flex x k v) : One x := by
  cases k <;> cases v <;> simp only [LV] at h <;> try exact h.elim
  · obtain ⟨rfl, -⟩ := h; exact ⟨rfl, rfl⟩
  · obtain ⟨rfl, -⟩ := h; exact ⟨rfl, rfl⟩
  · obtain ⟨rfl, -⟩ := h; exact ⟨rfl, rfl⟩
  · subst h; exact ⟨rfl, rfl⟩
  · obtain ⟨rfl, -⟩ := h; exact ⟨rfl, rfl⟩
  · subst h; exact ⟨rfl, rfl⟩
  · obtain ⟨rfl, -⟩ := h; exact ⟨rfl, rfl⟩
  · obtain ⟨⟨p, q, rfl, -⟩, -⟩ := h; exact ⟨rfl, rfl⟩
  · subst h; exact ⟨rfl, rfl⟩
  · obtain ⟨⟨a, cap, rfl, -⟩, -⟩ := h; exact ⟨rfl, rfl⟩
  · obtain ⟨⟨p, q, rfl, -⟩, -⟩ := h; exact ⟨rfl, rfl⟩
  · subst h; exact ⟨rfl, rfl⟩
theorem run_store_blk {P : Program} {U : Nat} (hU : OneCell P U) {w : World} {b i T : Nat} {c : List Value} {x : Value} (h : Blk w b c T) (hi : i < c.length) (hx : One x) :
    (Instr.storeAt U (.pointer (some ⟨b, i, none⟩)) x).run P w = .ok () (w.setCell ⟨b, i, none⟩ x) := by
  obtain ⟨t, ht, hs⟩ := hU.2
  have h1 := h.cell_some (List.getElem?_eq_getElem hi)
  have h2 := h.frozen i
  have h3 := hx.2
  simp [Instr.storeAt, Instr.sureAddr, storeVar, sizeOf, typeInfo, ht, hs, hx.1, storeCells, Addr.add]
  rw [run_store _ _ _ _ _ h3, h1]
  simp [h2]

/-- Where a walk of readFrom stands: the reader in block rb, the part that is filled in block b; E is what the package's error holds. -/
structure RSt (gE : Nat) (E : Value) (O : List Nat) (w : World) (rb b : Nat) (cs : List Value) (T : Nat) (st : Option (List UInt8)) : Prop where
  rdr : Rdr O w rb st
  blk : Blk w b cs T
  rbO : rb ∈ O
  bO : b ∈ O
  ne : b ≠ rb
  lt : ∀ k, k ∈ O → k < w.heap.size
  glob : w.cell? ⟨gE, 0, none⟩ = some E
  gO : gE ∉ O
section
variable {RT : RTags} {P : Program} {N nt gE : Nat} {E : Value} {K : Slots} {lo t : Nat} {ver : Int} {flex : Bool} {O : List Nat} {w w' : World} {rb b T : Nat} {cs : List Value} {st st' : Option (List UInt8)}
theorem RSt.call (h : RSt gE E O w rb b cs T st) (hr : Rdr O w' rb st') (hk : Keeps [rb] w w') : RSt gE E O w' rb b cs T st' :=
  ⟨hr, h.blk.keeps hk (by simpa using h.ne), h.rbO, h.bO, h.ne, hlt_on h.lt hk, (World.cell?_of_block (hk.block gE (World.block_lt_of_cell? w _ h.glob) (by rintro hx; rw [List.mem_singleton] at hx; exact h.gO (hx ▸ h.rbO)))).trans h.glob, h.gO⟩
theorem RSt.store (h : RSt gE E O w rb b cs T st) (i : Nat) (x : Value) : RSt gE E O (w.setCell ⟨b, i, none⟩ x) rb b (cs.set i x) T st := by
  have hk : Keeps [b] w (w.setCell ⟨b, i, none⟩ x) := (Keeps.refl [b] w).setCell (List.mem_singleton.2 rfl) _
  refine ⟨h.rdr.other hk (by simpa using fun e => h.ne e.symm) (by simpa using h.bO), h.blk.set i x, h.rbO, h.bO, h.ne, hlt_on h.lt hk, ?_, h.gO⟩
  exact (World.cell?_of_block (hk.block gE (World.block_lt_of_cell? w _ h.glob) (by rintro hx; rw [List.mem_singleton] at hx; exact h.gO (hx ▸ h.bO)))).trans h.glob
theorem keeps_rb (hk : Keeps [rb] w w') : Keeps [rb, b] w w' := hk.mono fun k hk => by rw [List.mem_singleton] at hk; simp [hk]
theorem keeps_b (w : World) (i : Nat) (x : Value) : Keeps [rb, b] w (w.setCell ⟨b, i, none⟩ x) := (Keeps.refl [rb, b] w).setCell (p := ⟨b, i, none⟩) (by simp) _
theorem RSt.keepO (h : RSt gE E O w rb b cs T st) {w1 w2 : World} (hk : Keeps [rb, b] w1 w2) : Keeps O w1 w2 := hk.mono fun k hk => by
  simp only [List.mem_cons, List.not_mem_nil, or_false] at hk
  rcases hk with rfl | rfl
  · exact h.rbO
  · exact h.bO
theorem Holds.frR {a a' : Act} (h : Holds K a) (hk : KOK N lo t K) (hD : Dims N nt lo t) (hf : Fr N lo t nt a a') : Holds K a' := fun p hp => by
  have h1 := (hk p hp).2
  have h2 := hD.dLo
  have h3 := hD.dT
  have h4 := hD.dN
  exact (hf.same p.1 (by omega) h1).trans (h p hp)

/-- The code c reads by p, into the cells from i on, below j, of the part whose address lies in slot s; the reader's address lies in slot bp. Where too little is left it may end the call, with the error in slot rs. -/
def RdG (P : Program) (N nt gE : Nat) (E : Value) (K : Slots) (lo t s bp rs : Nat) (c : Code) (p : Pr GV) (Fs : List Value → Nat → Prop) (i j : Nat) (R : List Nat → World → Nat → Nat → GV → Prop) : Prop :=
  ∀ (O : List Nat) (rb b o T : Nat) (a : Act) (w : World) (cs : List Value) (st : Option (List UInt8)) (Q : Exit → Act → World → Prop),
    a.tmps.size = nt → Holds ((s, .pointer (some ⟨b, o, none⟩)) :: (bp, .pointer (some ⟨rb, 0, none⟩)) :: K) a → RSt gE E O w rb b cs T st → Fs cs o →
    (∀ a' w' cs', RSt gE E O w' rb b cs' T ((st.bind p).map (·.2)) → Fr N lo t nt a a' → Keeps [rb, b] w w' → SameOut cs cs' (o + i) (o + j) → (∀ v r, st.bind p = some (v, r) → R O w' b o v) → Q .normal a' w') →
    (∀ a' w', st.bind p = none → a'.tmps.size = nt → a'.defers = a.defers → aget a' rs = E → Keeps [rb, b] w w' → Q .ret a' w') → c.wp P Q a w
/-- A field at cell off. -/
def RdF (RT : RTags) (P : Program) (N nt gE : Nat) (E : Value) (ver : Int) (flex : Bool) (K : Slots) (lo t s bp rs : Nat) (c : Code) (off : Nat) (f : Sch) : Prop :=
  RdG P N nt gE E K lo t s bp rs c (rd ver flex f) (fun cs o => Fresh cs (o + off) f) off (off + top f) (fun O w b o v => Rep RT O w ver flex f b (o + off) v)
def rdV (ver : Int) (flex : Bool) (vlo : Int) (vhi : Option Int) (f : Sch) : Pr GV := if hasV vlo vhi ver then rd ver flex f else .pure .unit
/-- A field, where the version has it. -/
def RdFV (RT : RTags) (P : Program) (N nt gE : Nat) (E : Value) (ver : Int) (flex : Bool) (K : Slots) (lo t s bp rs : Nat) (c : Code) (off : Nat) (vlo : Int) (vhi : Option Int) (f : Sch) : Prop :=
  RdG P N nt gE E K lo t s bp rs c (rdV ver flex vlo vhi f) (fun cs o => Fresh cs (o + off) f) off (off + top f) (fun O w b o v => hasV vlo vhi ver = true → Rep RT O w ver flex f b (o + off) v)
/-- A part, from cell n on. -/
def RdS (RT : RTags) (P : Program) (N nt gE : Nat) (E : Value) (ver : Int) (flex : Bool) (K : Slots) (lo t s bp rs : Nat) (c : Code) (n : Nat) (f : Sch) : Prop :=
  RdG P N nt gE E K lo t s bp rs c (rd ver flex f) (fun cs o => Fresh cs o f) n (top f) (fun O w b o v => Rep RT O w ver flex f b o v)
theorem rd_cons (ver : Int) (flex : Bool) (off : Nat) (vlo : Int) (vhi : Option Int) (f rest : Sch) : rd ver flex (.cons off vlo vhi f rest) = (rdV ver flex vlo vhi f).bind fun v => (rd ver flex rest).bind fun vs => .pure (.cons v vs) := by
  conv => lhs; unfold rd
  unfold rdV
  split
  · rfl
  · rfl
theorem bind2 {p1 p2 : Pr GV} {f : GV → GV → GV} : st.bind (p1.bind fun v => p2.bind fun vs => .pure (f v vs)) = (st.bind p1).bind fun q => (p2 q.2).bind fun r => some (f q.1 r.1, r.2) := by
  rw [bind_st]
  congr 1
  funext q
  cases h : p2 q.2 with
  | none => rw [bind_none h]; rfl
  | some r => rw [bind_eq (r := r.2) (v := r.1) h]; rfl
theorem RdG.seq {s bp rs : Nat} {c1 c2 : Code} {p1 p2 : Pr GV} {f : GV → GV → GV} {Fs F1 F2 : List Value → Nat → Prop} {i1 j1 i2 j2 i j : Nat} {R R1 R2 : List Nat → World → Nat → Nat → GV → Prop}
    (hk : KOK N lo t ((s, .int .i64 0) :: (bp, .int .i64 0) :: K)) (hD : Dims N nt lo t) (h1 : RdG P N nt gE E K lo t s bp rs c1 p1 F1 i1 j1 R1) (h2 : RdG P N nt gE E K lo t s bp rs c2 p2 F2 i2 j2 R2)
    (hF1 : ∀ cs o, Fs cs o → F1 cs o) (hF2 : ∀ cs cs' o, Fs cs o → SameOut cs cs' (o + i1) (o + j1) → F2 cs' o)
    (hR1 : ∀ O w w' b o v, R1 O w b o v → Keeps O w w' → (∀ k, k < o + j1 → w'.cell? ⟨b, k, none⟩ = w.cell? ⟨b, k, none⟩) → R1 O w' b o v) (hR : ∀ O w b o v vs, R1 O w b o v → R2 O w b o vs → R O w b o (f v vs))
    (hij : i ≤ i1 ∧ i ≤ i2 ∧ j1 ≤ j ∧ j2 ≤ j ∧ j1 ≤ i2) : RdG P N nt gE E K lo t s bp rs (c1.seq c2) (p1.bind fun v => p2.bind fun vs => .pure (f v vs)) Fs i j R := by
  intro O rb b o T a w cs st Q hN hh hst hF hq hr
  have hk' : KOK N lo t ((s, .pointer (some ⟨b, o, none⟩)) :: (bp, .pointer (some ⟨rb, 0, none⟩)) :: K) := fun p hp => by
    simp only [List.mem_cons] at hp
    rcases hp with rfl | rfl | hp
    · exact hk (s, .int .i64 0) (by simp)
    · exact hk (bp, .int .i64 0) (by simp)
    · exact hk p (by simp [hp])
  refine wp_seq (h1 O rb b o T a w cs st _ hN hh hst (hF1 _ _ hF) ?_ ?_)
  · intro a1 w1 cs1 hst1 hf1 hk1 hs1 hv1
    refine h2 O rb b o T a1 w1 cs1 _ Q (hf1.size.trans hN) (hh.frR hk' hD hf1) hst1 (hF2 _ _ _ hF hs1) ?_ ?_
    · intro a2 w2 cs2 hst2 hf2 hk2 hs2 hv2
      refine hq a2 w2 cs2 ?_ (hf1.trans hf2) (hk1.trans hk2) (hs1.trans hs2 (by omega) (by omega)) ?_
      · have e : ((st.bind p1).map (·.2)).bind p2 = none ∨ True := .inr trivial
        rw [bind2]
        cases hx : st.bind p1 with
        | none => rw [hx] at hst2; exact hst2
        | some q =>
          rw [hx] at hst2
          change RSt gE E O w2 rb b cs2 T ((p2 q.2).map (·.2)) at hst2
          change RSt gE E O w2 rb b cs2 T (((p2 q.2).bind fun r => some (f q.1 r.1, r.2)).map (·.2))
          cases hy : p2 q.2 with
          | none => rw [hy] at hst2; exact hst2
          | some r => rw [hy] at hst2; exact hst2
      · intro v r hvr
        rw [bind2] at hvr
        cases hx : st.bind p1 with
        | none => rw [hx] at hvr; cases hvr
        | some q =>
          rw [hx] at hvr
          change ((p2 q.2).bind fun r => some (f q.1 r.1, r.2)) = _ at hvr
          cases hy : p2 q.2 with
          | none => rw [hy] at hvr; cases hvr
          | some r2 =>
            rw [hy] at hvr
            simp only [Option.bind_some, Option.some.injEq, Prod.mk.injEq] at hvr
            obtain ⟨rfl, rfl⟩ := hvr
            refine hR _ _ _ _ _ _ (hR1 _ _ _ _ _ _ (hv1 q.1 q.2 hx) (hst.keepO hk2) fun k hk => ?_) (hv2 r2.1 r2.2 (by rw [hx]; exact hy))
            exact hst1.blk.same hst2.blk hs2 k (by omega)
    · intro a2 w2 hn hs hd hE hk2
      refine hr a2 w2 ?_ hs (hd.trans hf1.defers) hE (hk1.trans hk2)
      rw [bind2]
      cases hx : st.bind p1 with
      | none => rfl
      | some q =>
        rw [hx] at hn
        change p2 q.2 = none at hn
        change ((p2 q.2).bind fun r => some (f q.1 r.1, r.2)) = none
        rw [hn]
        rfl
  · intro a1 w1 hn hs hd hE hk1
    refine hr a1 w1 ?_ hs hd hE hk1
    rw [bind2, hn]
    rfl

theorem kokR {s bp : Nat} {x y : Value} (hk : KOK N lo t ((s, .int .i64 0) :: (bp, .int .i64 0) :: K)) : KOK N lo t ((s, x) :: (bp, y) :: K) := fun p hp => by
  simp only [List.mem_cons] at hp
  rcases hp with rfl | rfl | hp
  · exact hk (s, .int .i64 0) (by simp)
  · exact hk (bp, .int .i64 0) (by simp)
  · exact hk p (by simp [hp])
theorem RdG.mono {s bp rs lo' t' : Nat} {c : Code} {p : Pr GV} {Fs : List Value → Nat → Prop} {i j : Nat} {R : List Nat → World → Nat → Nat → GV → Prop} (h : RdG P N nt gE E K lo' t' s bp rs c p Fs i j R) (h1 : lo ≤ lo') (h2 : t ≤ t') : RdG P N nt gE E K lo t s bp rs c p Fs i j R :=
  fun O rb b o T a w cs st Q hN hh hst hF hq hr => h O rb b o T a w cs st Q hN hh hst hF (fun a' w' cs' g1 g2 => hq a' w' cs' g1 (g2.mono h1 h2)) hr
theorem rep_moved (hRT : RTKeep RT) {s : Sch} {off : Nat} : ∀ (O : List Nat) (w w' : World) (b o : Nat) (v : GV), Rep RT O w ver flex s b (o + off) v → Keeps O w w' → (∀ k, k < o + (off + top s) → w'.cell? ⟨b, k, none⟩ = w.cell? ⟨b, k, none⟩) → Rep RT O w' ver flex s b (o + off) v :=
  fun O w w' b o v h hk hc => h.move hRT hk fun i hi => hc _ (by omega)
theorem rdS_cons {s bp rs off n : Nat} {vlo : Int} {vhi : Option Int} {c1 c2 : Code} {f rest : Sch} (hRT : RTKeep RT) (hk : KOK N lo t ((s, .int .i64 0) :: (bp, .int .i64 0) :: K)) (hD : Dims N nt lo t) (ho : ord n (.cons off vlo vhi f rest) = true)
    (h1 : RdFV RT P N nt gE E ver flex K lo t s bp rs c1 off vlo vhi f) (h2 : RdS RT P N nt gE E ver flex K lo t s bp rs c2 (off + top f) rest) : RdS RT P N nt gE E ver flex K lo t s bp rs (c1.seq c2) n (.cons off vlo vhi f rest) := by
  simp only [ord, Bool.and_eq_true, decide_eq_true_eq] at ho
  unfold RdS
  rw [rd_cons]
  refine RdG.seq hk hD h1 h2 (fun cs o h => h.1) (fun cs cs' o h hs => h.2.behind hs ho.2 (by omega)) (fun O w w' b o v h hk hc hv => rep_moved hRT O w w' b o v (h hv) hk hc) (fun O w b o v vs h1 h2 => ⟨h1, h2⟩) ?_
  simp only [top]
  omega
theorem RdG.skip {s bp rs : Nat} {Fs : List Value → Nat → Prop} {n : Nat} {v : GV} {R : List Nat → World → Nat → Nat → GV → Prop} (hR : ∀ O w b o, R O w b o v) : RdG P N nt gE E K lo t s bp rs .skip (.pure v) Fs n n R := by
  intro O rb b o T a w cs st Q hN hh hst hF hq hr
  refine wp_skip (hq a w cs ?_ (Fr.refl ..) (Keeps.refl _ _) (SameOut.refl _ _ _) fun v' r h => ?_)
  · cases st <;> exact hst
  · cases st with
    | none => cases h
    | some bs =>
      simp only [Option.bind_some, Pr.pure, Option.some.injEq, Prod.mk.injEq] at h
      obtain ⟨rfl, rfl⟩ := h
      exact hR _ _ _ _
/-- A last field with nothing behind it. -/
theorem rdS_last {s bp rs off n : Nat} {vlo : Int} {vhi : Option Int} {c1 : Code} {f : Sch} (ho : n ≤ off) (h1 : RdFV RT P N nt gE E ver flex K lo t s bp rs c1 off vlo vhi f) : RdS RT P N nt gE E ver flex K lo t s bp rs c1 n (.cons off vlo vhi f .done) := by
  intro O rb b o T a w cs st Q hN hh hst hF hq hr
  have e : st.bind (rd ver flex (.cons off vlo vhi f .done)) = (st.bind (rdV ver flex vlo vhi f)).bind fun q => some (.cons q.1 .unit, q.2) := by
    rw [rd_cons, bind2]
    rfl
  refine h1 O rb b o T a w cs st Q hN hh hst hF.1 (fun a' w' cs' g1 g2 g3 g4 g5 => hq a' w' cs' ?_ g2 g3 ?_ ?_) (fun a' w' hn => hr a' w' ?_)
  · rw [e]
    cases hx : st.bind (rdV ver flex vlo vhi f) with
    | none => rw [hx] at g1; exact g1
    | some q => rw [hx] at g1; exact g1
  · simp only [top]
    exact g4.mono (by omega) (by omega)
  · intro v r hv
    rw [e] at hv
    cases hx : st.bind (rdV ver flex vlo vhi f) with
    | none => rw [hx] at hv; cases hv
    | some q =>
      rw [hx] at hv
      simp only [Option.bind_some, Option.some.injEq, Prod.mk.injEq] at hv
      obtain ⟨rfl, rfl⟩ := hv
      exact ⟨g5 q.1 q.2 hx, trivial⟩
  · rw [e, hn]
    rfl
theorem rdFV_always {s bp rs off : Nat} {vlo : Int} {vhi : Option Int} {c : Code} {f : Sch} (hv : hasV vlo vhi ver = true) (h : RdF RT P N nt gE E ver flex K lo t s bp rs c off f) : RdFV RT P N nt gE E ver flex K lo t s bp rs c off vlo vhi f := by
  unfold RdFV rdV
  rw [if_pos hv]
  exact fun O rb b o T a w cs st Q hN hh hst hF hq hr => h O rb b o T a w cs st Q hN hh hst hF (fun a' w' cs' g1 g2 g3 g4 g5 => hq a' w' cs' g1 g2 g3 g4 fun v r h _ => g5 v r h) hr
/-- Behind a test whose outcome lies in slot x. -/
theorem rdFV_if {s bp rs off x : Nat} {vlo : Int} {vhi : Option Int} {c : Code} {f : Sch} (h : RdF RT P N nt gE E ver flex K lo t s bp rs c off f) :
    ∀ (O : List Nat) (rb b o T : Nat) (a : Act) (w : World) (cs : List Value) (st : Option (List UInt8)) (Q : Exit → Act → World → Prop), aget a x = .bool (hasV vlo vhi ver) →
    a.tmps.size = nt → Holds ((s, .pointer (some ⟨b, o, none⟩)) :: (bp, .pointer (some ⟨rb, 0, none⟩)) :: K) a → RSt gE E O w rb b cs T st → Fresh cs (o + off) f →
    (∀ a' w' cs', RSt gE E O w' rb b cs' T ((st.bind (rdV ver flex vlo vhi f)).map (·.2)) → Fr N lo t nt a a' → Keeps [rb, b] w w' → SameOut cs cs' (o + off) (o + (off + top f)) → (∀ v r, st.bind (rdV ver flex vlo vhi f) = some (v, r) → hasV vlo vhi ver = true → Rep RT O w' ver flex f b (o + off) v) → Q .normal a' w') →
    (∀ a' w', st.bind (rdV ver flex vlo vhi f) = none → a'.tmps.size = nt → a'.defers = a.defers → aget a' rs = E → Keeps [rb, b] w w' → Q .ret a' w') → (Code.cond (.tmp x) c .skip).wp P Q a w := by
  intro O rb b o T a w cs st Q hx hN hh hst hF hq hr
  cases hv : hasV vlo vhi ver
  · rw [hv] at hx
    refine wp_cond_false hx (wp_skip (hq a w cs ?_ (Fr.refl ..) (Keeps.refl _ _) (SameOut.refl _ _ _) fun v' r _ h => by rw [hv] at h; cases h))
    unfold rdV
    rw [if_neg (by rw [hv]; exact fun h => by cases h)]
    cases st <;> exact hst
  · rw [hv] at hx
    exact wp_cond_true hx (rdFV_always (vlo := vlo) (vhi := vhi) hv h O rb b o T a w cs st Q hN hh hst hF hq hr)
theorem rdFV_ge {s bp rs off sv t1 r ty1 ty2 T' U : Nat} {p1 p2 : String} {e1 e2 : Array Edge} {n : Int} {c : Code} {f : Sch} (hk : KOK N lo t ((s, .int .i64 0) :: (bp, .int .i64 0) :: K)) (hsv : (sv, Value.int .i16 ver) ∈ K) (hD : Dims N nt lo t) (hd : t ≤ t1 ∧ t1 + 1 < nt)
    (h : RdF RT P N nt gE E ver flex K lo t s bp rs c off f) :
    RdFV RT P N nt gE E ver flex K lo t s bp rs ((Code.region r #[⟨some t1, .move (.tmp sv), ty1, p1, e1, none⟩, ⟨some (t1 + 1), .binOp .geq T' (.tmp t1) (.const (.int .i16 n)) U, ty2, p2, e2, none⟩] false).seq (.cond (.tmp (t1 + 1)) c .skip)) off n none f := by
  intro O rb b o T a w cs st Q hN hh hst hF hq hr
  refine wp_seq (reg_cmp (x0 := nt) (lo := lo) (b := hasV n none ver) hN (hh _ (List.mem_cons_of_mem _ (List.mem_cons_of_mem _ hsv))) ⟨hD.dT, hd.1, hd.2, hD.dLo⟩ (fun w => by rw [run_cmp_i16]; simp [hasV]) fun a' hfr hx => ?_)
  exact rdFV_if h O rb b o T a' w cs st Q hx (hfr.size.trans hN) (hh.frR (kokR hk) hD hfr) hst hF (fun a2 w2 cs2 g1 g2 => hq a2 w2 cs2 g1 (hfr.trans g2)) (fun a2 w2 g1 g2 g3 => hr a2 w2 g1 g2 (g3.trans hfr.defers))
theorem rdFV_range {s bp rs off sv t1 r ty1 ty2 ty3 ty4 ty5 ty6 T' U T'' U' : Nat} {p1 p2 p3 p4 p5 p6 : String} {e1 e2 e3 e4 e5 e6 : Array Edge} {n m : Int} {c : Code} {f : Sch} (hk : KOK N lo t ((s, .int .i64 0) :: (bp, .int .i64 0) :: K)) (hsv : (sv, Value.int .i16 ver) ∈ K) (hsl : sv < t1) (hD : Dims N nt lo t) (hd : t ≤ t1 ∧ t1 + 5 < nt)
    (h : RdF RT P N nt gE E ver flex K lo t s bp rs c off f) :
    RdFV RT P N nt gE E ver flex K lo t s bp rs ((Code.region r #[⟨some t1, .move (.tmp sv), ty1, p1, e1, none⟩, ⟨some (t1 + 1), .binOp .geq T' (.tmp t1) (.const (.int .i16 n)) U, ty2, p2, e2, none⟩, ⟨some (t1 + 2), .move (.tmp (t1 + 1)), ty3, p3, e3, none⟩,
      ⟨some (t1 + 3), .move (.tmp sv), ty4, p4, e4, some (2, true)⟩, ⟨some (t1 + 4), .binOp .leq T'' (.tmp (t1 + 3)) (.const (.int .i16 m)) U', ty5, p5, e5, some (2, true)⟩,
      ⟨some (t1 + 5), .pick (.tmp (t1 + 2)) (.tmp (t1 + 4)) (.const (.bool false)), ty6, p6, e6, none⟩] false).seq (.cond (.tmp (t1 + 5)) c .skip)) off n (some m) f := by
  intro O rb b o T a w cs st Q hN hh hst hF hq hr
  refine wp_seq (reg_range (x0 := nt) (lo := lo) hN (hh _ (List.mem_cons_of_mem _ (List.mem_cons_of_mem _ hsv))) ⟨hD.dT, hd.1, hd.2, hD.dLo, by omega, by omega, by omega⟩ fun a' hfr hx => ?_)
  exact rdFV_if h O rb b o T a' w cs st Q hx (hfr.size.trans hN) (hh.frR (kokR hk) hD hfr) hst hF (fun a2 w2 cs2 g1 g2 => hq a2 w2 cs2 g1 (hfr.trans g2)) (fun a2 w2 g1 g2 g3 => hr a2 w2 g1 g2 (g3.trans hfr.defers))

/-- The code c reads a value of a kind into slot u. -/
def RdL (P : Program) (N nt gE : Nat) (E : Value) (ver : Int) (flex : Bool) (K : Slots) (lo t bp : Nat) (c : Code) (u : Nat) (lf : Leaf) : Prop :=
  ∀ (O : List Nat) (rb b T : Nat) (a : Act) (w : World) (cs : List Value) (st : Option (List UInt8)) (Q : Exit → Act → World → Prop), a.tmps.size = nt → Holds ((bp, .pointer (some ⟨rb, 0, none⟩)) :: K) a → RSt gE E O w rb b cs T st →
    (∀ a' w' x, aget a' u = x → One x → RSt gE E O w' rb b cs T ((st.bind (rdLeaf ver flex lf)).map (·.2)) → Fr N lo t nt a a' → Keeps [rb] w w' → (∀ v r, st.bind (rdLeaf ver flex lf) = some (v, r) → LV O w' flex x lf v) → Q .normal a' w') → c.wp P Q a w
/-- Function F reads a kind. -/
def LeafRd (P : Program) (ver : Int) (flex : Bool) (F : Nat) (lf : Leaf) : Prop := RdC P F (rdLeaf ver flex lf) (fun O w v g => LV O w flex v lf g) One
theorem rdL_call {bp u t1 F r ty1 ty2 : Nat} {p1 p2 : String} {e1 e2 : Array Edge} {at_ : Array TypeId} {lf : Leaf} (he : Enters P F) (hC : LeafRd P ver flex F lf) (hD : Dims N nt lo t) (hd : t ≤ t1 ∧ t1 < nt ∧ lo ≤ u ∧ u < N) :
    RdL P N nt gE E ver flex K lo t bp (Code.region r #[⟨some t1, .call { callee := .value (.func F), args := #[.tmp bp], argTypes := at_ }, ty1, p1, e1, none⟩, ⟨some u, .assign (.tmp t1), ty2, p2, e2, none⟩] false) u lf := by
  intro O rb b T a w cs st Q hN hh hst hq
  obtain ⟨d1, d2, d3, d4⟩ := hd
  have g2 := hD.dLo; have g3 := hD.dT; have g4 := hD.dN
  refine wp_reg ?_
  refine wl_call (R := RdPost (rdLeaf ver flex lf) (fun O w v g => LV O w flex v lf g) One O rb w st) he ?_ ?_
  · simp only [List.map_toArray, List.map_cons, List.map_nil, aget_eval]
    rw [hh.head]
    exact hC O rb w st hst.rbO hst.lt hst.rdr
  rintro e w' ⟨v, rfl, hr, hk, hbad, hgood⟩
  refine ⟨v, rfl, ?_⟩
  refine wl_assign (aget_put_same _ _ _ (by rw [hN]; omega)) ?_
  refine wpList_nil (hq _ w' v (aget_put_same _ _ _ (by simp only [size_put]; omega)) ?_ (hst.call hr hk) (((Fr.refl N lo t nt a).put _ _ (by omega)).put _ _ (by omega)) hk hgood)
  cases hx : st.bind (rdLeaf ver flex lf) with
  | none => exact hbad hx
  | some q => exact (hgood q.1 q.2 hx).one
theorem rdL_flag {bp u sf t1 r ty1 : Nat} {p1 : String} {e1 : Array Edge} {c1 c2 : Code} {lf : Leaf} {fl : Bool} (hk : KOK N lo t ((bp, .int .i64 0) :: K)) (hf : (sf, Value.bool fl) ∈ K) (hD : Dims N nt lo t) (hd : t ≤ t1 ∧ t1 < nt)
    (h1 : fl = true → RdL P N nt gE E ver flex K lo t bp c1 u lf) (h2 : fl = false → RdL P N nt gE E ver flex K lo t bp c2 u lf) :
    RdL P N nt gE E ver flex K lo t bp ((Code.region r #[⟨some t1, .move (.tmp sf), ty1, p1, e1, none⟩] false).seq (.cond (.tmp t1) c1 c2)) u lf := by
  intro O rb b T a w cs st Q hN hh hst hq
  have hk' : KOK N lo t ((bp, .pointer (some ⟨rb, 0, none⟩)) :: K) := fun p hp => by
    simp only [List.mem_cons] at hp
    rcases hp with rfl | hp
    · exact hk (bp, .int .i64 0) (by simp)
    · exact hk p (by simp [hp])
  refine wp_seq (reg_flag (x0 := nt) (lo := lo) hN (hh _ (List.mem_cons_of_mem _ hf)) ⟨hD.dT, hd.1, hd.2, hD.dLo⟩ fun a' hfr hx => ?_)
  cases fl
  · exact wp_cond_false hx (h2 rfl O rb b T a' w cs st Q (hfr.size.trans hN) (hh.frR hk' hD hfr) hst fun a2 w2 x g1 g2 g3 g4 => hq a2 w2 x g1 g2 g3 (hfr.trans g4))
  · exact wp_cond_true hx (h1 rfl O rb b T a' w cs st Q (hfr.size.trans hN) (hh.frR hk' hD hfr) hst fun a2 w2 x g1 g2 g3 g4 => hq a2 w2 x g1 g2 g3 (hfr.trans g4))

/-- 's.F = v'. -/
theorem reg_store {s v t1 T' k U off r ty1 ty2 ty3 ty4 ty5 : Nat} {p1 p2 p3 p4 p5 : String} {e1 e2 e3 e4 e5 : Array Edge} {a : Act} {o : Nat} {x : Value} {Q : Exit → Act → World → Prop}
    (hT : FieldAt P T' k off) (hU : OneCell P U) (hN : a.tmps.size = nt) (hs : aget a s = .pointer (some ⟨b, o, none⟩)) (hv : aget a v = x) (hx : One x) (hb : Blk w b cs T) (hlt : o + off < cs.length) (hD : Dims N nt lo t) (hd : t ≤ t1 ∧ t1 + 3 < nt ∧ v ≠ t1)
    (h : ∀ a', Fr N lo t nt a a' → Q .normal a' (w.setCell ⟨b, o + off, none⟩ x)) :
    (Code.region r #[⟨some t1, .move (.tmp s), ty1, p1, e1, none⟩, ⟨some (t1 + 1), .move (.tmp v), ty2, p2, e2, none⟩, ⟨some (t1 + 2), .nilCheck (.tmp t1), ty3, p3, e3, none⟩, ⟨some (t1 + 3), .fieldAddr T' (.tmp (t1 + 2)) k, ty4, p4, e4, none⟩,
      ⟨none, .store U (.tmp (t1 + 3)) (.tmp (t1 + 1)), ty5, p5, e5, none⟩] false).wp P Q a w := by
  obtain ⟨d1, d2, d3⟩ := hd
  have g2 := hD.dLo; have g3 := hD.dT; have g4 := hD.dN
  refine wp_reg ?_
  refine wl_move hs ?_
  refine wl_move (v := x) (by rw [aget_put_other _ _ _ _ (by omega)]; exact hv) ?_
  refine wl_nilCheck (ad := ⟨b, o, none⟩) (by rw [aget_put_other _ _ _ _ (by omega)]; exact aget_put_same _ _ _ (by rw [hN]; omega)) ?_
  refine wl_fieldAddr hT (aget_put_same _ _ _ (by simp only [size_put, hN]; omega)) ?_
  rw [Addr.add_lit]
  refine wl_store (w' := w.setCell ⟨b, o + off, none⟩ x) ?_ ?_
  · rw [aget_eval, aget_eval, aget_put_same _ _ _ (by simp only [size_put, hN]; omega), aget_put_other _ _ _ _ (by omega), aget_put_other _ _ _ _ (by omega), aget_put_same _ _ _ (by simp only [size_put, hN]; omega)]
    exact run_store_blk hU hb hlt hx
  · exact wpList_nil (h _ (((((Fr.refl N lo t nt a).put _ _ (by omega)).put _ _ (by omega)).put _ _ (by omega)).put _ _ (by omega)))
/-- '{ v := b.F(); s.F = v }'. -/
theorem rdF_leaf {s bp rs v t1 t2 T' k U off r ty1 ty2 ty3 ty4 ty5 : Nat} {p1 p2 p3 p4 p5 : String} {e1 e2 e3 e4 e5 : Array Edge} {c : Code} {lf : Leaf}
    (hk : KOK N lo t ((s, .int .i64 0) :: (bp, .int .i64 0) :: K)) (hT : FieldAt P T' k off) (hU : OneCell P U) (hD : Dims N nt lo t) (hd : t ≤ t1 ∧ t1 + 3 < nt ∧ v ≠ t1) (hlf : lf ≠ .uuid) (h : RdL P N nt gE E ver flex K lo t bp c v lf) :
    RdF RT P N nt gE E ver flex K lo t s bp rs (c.seq (Code.region r #[⟨some t1, .move (.tmp s), ty1, p1, e1, none⟩, ⟨some (t1 + 1), .move (.tmp v), ty2, p2, e2, none⟩, ⟨some (t1 + 2), .nilCheck (.tmp t1), ty3, p3, e3, none⟩, ⟨some (t1 + 3), .fieldAddr T' (.tmp (t1 + 2)) k, ty4, p4, e4, none⟩,
      ⟨none, .store U (.tmp (t1 + 3)) (.tmp (t1 + 1)), ty5, p5, e5, none⟩] false)) off (.leaf lf) := by
  intro O rb b o T a w cs st Q hN hh hst hF hq hr
  have hl : o + off < cs.length := by cases lf <;> first | exact hF | exact absurd rfl hlf
  have ht : top (.leaf lf) = 1 := by cases lf <;> first | rfl | exact absurd rfl hlf
  refine wp_seq (h O rb b T a w cs st _ hN hh.tail hst fun a1 w1 x hx hone hst1 hf1 hk1 hlv => ?_)
  have hh1 := hh.frR (kokR hk) hD hf1
  refine reg_store hT hU (hf1.size.trans hN) hh1.head hx hone hst1.blk hl hD hd fun a2 hf2 => ?_
  refine hq a2 _ _ (hst1.store (o + off) x) (hf1.trans hf2) ((keeps_rb hk1).trans (keeps_b w1 _ _)) ?_ ?_
  · rw [ht]
    exact SameOut.set cs (o + off) x
  · intro v r hv
    have hb : Keeps O w1 (w1.setCell ⟨b, o + off, none⟩ x) := (Keeps.refl O w1).setCell hst.bO _
    exact ((hlv v r hv).keeps hb).rep ((hst1.blk.set (o + off) x).cell_some (by rw [List.getElem?_set_self hl]))
/-- 'var v T' ahead of it. -/
theorem rdL_var {bp u r ty1 : Nat} {p1 : String} {e1 : Array Edge} {c : Code} {lf : Leaf} {z : Value} (hk : KOK N lo t ((bp, .int .i64 0) :: K)) (hD : Dims N nt lo t) (hd : lo ≤ u ∧ u < N) (h : RdL P N nt gE E ver flex K lo t bp c u lf) :
    ∀ {c2 : Code} {s rs off : Nat}, RdF RT P N nt gE E ver flex K lo t s bp rs (c.seq c2) off (.leaf lf) → KOK N lo t ((s, .int .i64 0) :: (bp, .int .i64 0) :: K) → RdF RT P N nt gE E ver flex K lo t s bp rs ((Code.region r #[⟨some u, .assign (.const z), ty1, p1, e1, none⟩] false).seq (c.seq c2)) off (.leaf lf) := by
  intro c2 s rs off hF hk2 O rb b o T a w cs st Q hN hh hst hFr hq hr
  refine wp_seq (wp_reg (wl_assign_c (wpList_nil ?_)))
  have hf : Fr N lo t nt a (a.put (some u) z) := (Fr.refl N lo t nt a).put _ _ (by omega)
  exact hF O rb b o T _ w cs st Q (hf.size.trans hN) (hh.frR (kokR hk2) hD hf) hst hFr (fun a2 w2 cs2 g1 g2 => hq a2 w2 cs2 g1 (hf.trans g2)) (fun a2 w2 g1 g2 g3 => hr a2 w2 g1 g2 (g3.trans hf.defers))
end
end Go.Proofs.YtfchajjllhndlabGreatDoor

/- The code that reads a list. -/
namespace Go.Proofs.YtfchajjllhndlabGreatDoor
open Go Go.RowKit
set_option linter.unusedVariables false

/-! Many things, the last one told apart. -/
theorem many_snoc {α : Type} (p : Pr α) : ∀ (n : Nat) (bs : List UInt8), rdMany p (n + 1) bs = ((rdMany p n).bind fun l => p.bind fun v => .pure (l ++ [v])) bs
  | 0, bs => by
    change (p.bind fun v => (rdMany p 0).bind fun l => .pure (v :: l)) bs = (p.bind fun v => .pure ([] ++ [v])) bs
    rfl
  | n + 1, bs => by
    change (p.bind fun v => (rdMany p (n + 1)).bind fun l => .pure (v :: l)) bs = _
    cases hp : p bs with
    | none =>
      rw [bind_none hp, bind_none]
      exact bind_none hp
    | some q =>
      obtain ⟨v, r⟩ := q
      rw [bind_eq hp]
      have ih := many_snoc p n r
      cases hm : rdMany p n r with
      | none =>
        have h1 : rdMany p (n + 1) bs = none := by
          change (p.bind fun v => (rdMany p n).bind fun l => .pure (v :: l)) bs = none
          rw [bind_eq hp]
          exact bind_none hm
        rw [bind_none h1]
        rw [bind_none hm] at ih
        exact bind_none ih
      | some q2 =>
        obtain ⟨l, r2⟩ := q2
        have h1 : rdMany p (n + 1) bs = some (v :: l, r2) := by
          change (p.bind fun v => (rdMany p n).bind fun l => .pure (v :: l)) bs = _
          rw [bind_eq hp]
          exact bind_eq hm
        rw [bind_eq h1]
        rw [bind_eq hm] at ih
        cases hv : p r2 with
        | none =>
          rw [bind_none hv] at ih
          rw [bind_none hv]
          exact bind_none ih
        | some q3 =>
          obtain ⟨u, r3⟩ := q3
          rw [bind_eq hv] at ih
          rw [bind_eq hv]
          exact bind_eq ih
theorem many_none {α : Type} {p : Pr α} {bs : List UInt8} {k : Nat} (h : rdMany p k bs = none) : ∀ {n : Nat}, k ≤ n → rdMany p n bs = none
  | 0, hn => by
    obtain rfl : k = 0 := by omega
    exact h
  | n + 1, hn => by
    by_cases hk : k = n + 1
    · rw [← hk]; exact h
    · rw [many_snoc]
      exact bind_none (many_none h (by omega))
theorem st_snoc {α : Type} (p : Pr α) (st : Option (List UInt8)) (n : Nat) : st.bind (rdMany p (n + 1)) = (st.bind (rdMany p n)).bind fun q => (p q.2).bind fun r => some (q.1 ++ [r.1], r.2) := by
  cases st with
  | none => rfl
  | some bs =>
    change rdMany p (n + 1) bs = (rdMany p n bs).bind _
    rw [many_snoc]
    cases h : rdMany p n bs with
    | none => rw [bind_none h]; rfl
    | some q =>
      obtain ⟨l, r⟩ := q
      rw [bind_eq h]
      change _ = (p r).bind _
      cases h2 : p r with
      | none => rw [bind_none h2]; rfl
      | some q2 => rw [bind_eq (v := q2.1) (r := q2.2) h2]; rfl
theorem st_none {α : Type} {p : Pr α} {st : Option (List UInt8)} {k n : Nat} (h : st.bind (rdMany p k) = none) (hn : k ≤ n) : st.bind (rdMany p n) = none := by
  cases st with
  | none => rfl
  | some bs => exact many_none h hn

/-! Fresh cells. -/
theorem Fresh.congr : ∀ {s : Sch} {c c' : List Value} {o o' : Nat}, Fresh c o s → (∀ j, j < top s → c'[o' + j]? = c[o + j]?) → Fresh c' o' s
  | .leaf k, c, c', o, o', h, hj => by
    have hlen : ∀ j, j < top (.leaf k) → o + j < c.length → o' + j < c'.length := fun j hj' hl => by
      have h1 := hj j hj'
      rw [List.getElem?_eq_getElem hl] at h1
      exact (List.getElem?_eq_some_iff.1 h1).1
    cases k <;> simp only [Fresh] at h ⊢
    case uuid => have := hlen 15 (by decide) (by omega); omega
    all_goals (have := hlen 0 Nat.zero_lt_one (by omega); omega)
  | .list _ _ _, c, c', o, o', h, hj => (hj 0 Nat.zero_lt_one).trans h
  | .opt _, c, c', o, o', h, hj => (hj 0 Nat.zero_lt_one).trans h
  | .done, _, _, _, _, _, _ => trivial
  | .tags off, c, c', o, o', h, hj => (hj off (by simp [top])).trans h
  | .cons off lo hi f rest, c, c', o, o', h, hj => by
    refine ⟨Fresh.congr h.1 fun j hj' => ?_, Fresh.congr h.2 fun j hj' => hj j (by simp only [top]; omega)⟩
    rw [Nat.add_assoc, Nat.add_assoc]
    exact hj (off + j) (by simp only [top]; omega)
theorem zero_at {z : Array Value} {n k j : Nat} (hk : k < n) (hj : j < z.size) : (Builtin.zeroCells z n).toList[k * z.size + j]? = z.toList[j]? := by
  have h1 : k * z.size + j < n * z.size := by
    have := Nat.mul_le_mul_right z.size (show k + 1 ≤ n by omega)
    rw [Nat.add_mul, Nat.one_mul] at this
    omega
  have h2 : (k * z.size + j) % z.size = j := by
    rw [Nat.mul_comm, Nat.mul_add_mod, Nat.mod_eq_of_lt hj]
  simp [Builtin.zeroCells, h1, h2, hj]
/-- The cells of a list that has just been made. -/
theorem made_fresh {z : Array Value} {n m k : Nat} {e : Sch} (hf : Fresh z.toList 0 e) (ht : top e ≤ z.size) (hk : k < n) : Fresh ((Builtin.zeroCells z n ++ Builtin.zeroCells z m).toList) (k * z.size) e := by
  refine hf.congr fun j hj => ?_
  rw [Nat.zero_add, Array.toList_append, List.getElem?_append_left]
  · exact zero_at hk (by omega)
  · rw [Array.length_toList, size_zeroCells]
    have := Nat.mul_le_mul_right z.size (show k + 1 ≤ n by omega)
    rw [Nat.add_mul, Nat.one_mul] at this
    omega
theorem run_append_zeros {P : Program} (w : World) (t tn ty e : TypeId) (i : TypeInfo) (z : Value) (k kn : IntKind) (ht : P.underlying t = some (.slice e)) (htn : P.underlying tn = some (.int kn)) (hi : P.info? e = some i) (hz : i.zero = some z)
    (base : Option Addr) (n : Nat) (h0 : 0 < n) (hs : 0 < i.size) (h63 : (n : Int) ≤ 9223372036854775807) (h48 : n * i.bytes ≤ 281474976710656) :
    (Builtin.append_ #[t, tn] ty #[.slice base 0 0, .int k n]).run P w =
      .ok (.slice (some ⟨w.heap.size, 0, none⟩) n (grownCap w n 0 e)) (w.drew.alloc (.cells (Builtin.zeroCells z.cells n ++ Builtin.zeroCells z.cells (grownCap w n 0 e - n)) e)) := by
  have hn : n ≠ 0 := by omega
  have hw : IntKind.i64.wrap (n : Int) = n := by rw [IntKind.wrap_i64]; omega
  have h63' : ¬ (9223372036854775807 < (n : Int)) := by omega
  have h48' : ¬ (281474976710656 < Builtin.nextslicecap n 0 * i.bytes) := by rw [nextslicecap_zero h0]; omega
  have h48i : ¬ (281474976710656 < (n : Int) * (i.bytes : Int)) := by
    rw [← Int.natCast_mul]
    omega
  have hneg : ¬ ((n : Int) < 0) := by omega
  have hns : ¬ (n * i.size = 0) := Nat.mul_ne_zero hn (by omega)
  cases base with
  | none => simp [Builtin.append_, run_underlying ht, run_underlying htn, sizeOf, typeInfo, zeroValue, hi, hz, asInt, asIntOf, hw, hn, hneg, hns, h63', h48', h48i, Question.forced, run_firstCells_none, newRow, grownCap]
  | some ad =>
    have hf : (Builtin.firstCells i.size 0 (.slice (some ad) 0 0)).run P w.drew = .ok #[] w.drew := run_firstCells_some w.drew i.size 0 ad 0 0 [] (by simp) (by intro _ _ h'; simp at h')
    simp [Builtin.append_, run_underlying ht, run_underlying htn, sizeOf, typeInfo, zeroValue, hi, hz, asInt, asIntOf, hw, hn, hneg, hns, h63', h48', h48i, Question.forced, hf, newRow, grownCap]
end Go.Proofs.YtfchajjllhndlabGreatDoor

/- The code that reads a list: the loop. -/
namespace Go.Proofs.YtfchajjllhndlabGreatDoor
open Go Go.RowKit
set_option linter.unusedVariables false

section
variable {RT : RTags} {P : Program} {N nt gE : Nat} {E : Value} {K : Slots} {lo t : Nat} {ver : Int} {flex : Bool}
theorem wl_index32 {w : World} {ops : Array Oper} {rest : List Oper} {a : Act} {Q : Exit → Act → World → Prop} {d : Nat} {ty : TypeId} {pos : String} {af : Array Edge} {t e s s' esz : Nat} (ht : P.underlying t = some (.slice e)) (he : ∃ i, P.info? e = some i ∧ i.size = esz) {ad : Addr} {n c : Nat} {k : Nat} (hk : k < n) (hs : aget a s = .slice (some ad) n c) (hs' : aget a s' = .int .i32 k)
    (h : wpList P ops Q rest (a.put (some d) (.pointer (some (ad.add (k * esz))))) w) : wpList P ops Q (⟨some d, .indexAddr t (.tmp s) (.tmp s'), ty, pos, af, none⟩ :: rest) a w := by
  obtain ⟨i, hi, rfl⟩ := he
  refine wl_value (v := .pointer (some (ad.add (k * i.size)))) (w' := w) rfl ?_ h
  have h1 : (0 : Int) ≤ k ∧ (k : Int) < n := by omega
  simp [execOp, aget_eval, hs, hs', Instr.indexAt, asIntOf, run_underlying ht, sizeOf, typeInfo, hi, h1]
  exact fun hx => absurd hx (by omega)

/-- One thing of a list that lies in block p: slot u holds the list, slot i its place. -/
def RdEl (RT : RTags) (P : Program) (N nt gE : Nat) (E : Value) (ver : Int) (flex : Bool) (K : Slots) (lo t u i bp rs : Nat) (c : Code) (esz : Nat) (e : Sch) : Prop :=
  ∀ (O : List Nat) (rb p T n cap k : Nat) (a : Act) (w : World) (cs : List Value) (st : Option (List UInt8)) (Q : Exit → Act → World → Prop),
    a.tmps.size = nt → Holds ((i, .int .i32 (k : Nat)) :: (u, .slice (some ⟨p, 0, none⟩) n cap) :: (bp, .pointer (some ⟨rb, 0, none⟩)) :: K) a → k < n → RSt gE E O w rb p cs T st → Fresh cs (k * esz) e →
    (∀ a' w' cs', RSt gE E O w' rb p cs' T ((st.bind (rd ver flex e)).map (·.2)) → Fr N lo t nt a a' → Keeps [rb, p] w w' → SameOut cs cs' (k * esz) (k * esz + esz) → (∀ v r, st.bind (rd ver flex e) = some (v, r) → Rep RT O w' ver flex e p (k * esz) v) → Q .normal a' w') →
    (∀ a' w', st.bind (rd ver flex e) = none → a'.tmps.size = nt → a'.defers = a.defers → aget a' rs = E → Keeps [rb, p] w w' → Q .ret a' w') → c.wp P Q a w

/-- What the loop knows behind k rounds. -/
structure LpInv (RT : RTags) (nt gE : Nat) (E : Value) (ver : Int) (flex : Bool) (N lo t u i l : Nat) (O : List Nat) (rb p T n cap esz : Nat) (e : Sch) (st : Option (List UInt8)) (a1 : Act) (w1 : World) (cs1 : List Value) (k : Nat) (cs : List Value) (a : Act) (w : World) : Prop where
  le : k ≤ n
  fr : Fr N lo t nt a1 a
  si : aget a i = .int .i32 (k : Nat)
  sl : aget a l = .int .i32 (n : Nat)
  su : aget a u = .slice (some ⟨p, 0, none⟩) n cap
  rst : RSt gE E O w rb p cs T ((st.bind (rdMany (rd ver flex e) k)).map (·.2))
  fresh : ∀ j, k ≤ j → j < n → Fresh cs (j * esz) e
  keeps : Keeps [rb, p] w1 w
  done : ∀ vs r, st.bind (rdMany (rd ver flex e) k) = some (vs, r) → vs.length = k ∧ ∀ j v, vs[j]? = some v → Rep RT O w ver flex e p (j * esz) v

theorem rd_for {u i l bp rs t2 t4 B B' r1 r2 r4 T2 U2 T3 U3 ty1 ty2 ty3 ty4 ty5 ty6 ty7 lo' t' esz : Nat} {p1 p2 p3 p4 p5 p6 p7 : String} {e1 e2 e3 e4 e5 e6 e7 : Array Edge} {c : Code} {e : Sch}
    (hRT : RTKeep RT) (hk : KOK N lo t ((bp, .int .i64 0) :: K)) (hD : Dims N nt lo t) (hD' : Dims N nt lo' t') (hd : t ≤ t2 ∧ t2 + 2 < nt ∧ t ≤ t4 ∧ t4 + 1 < nt ∧ lo ≤ u ∧ u < N ∧ lo ≤ l ∧ l < N ∧ lo ≤ i ∧ i < N ∧ u < lo' ∧ l < lo' ∧ i < lo' ∧ lo ≤ lo' ∧ t ≤ t' ∧ u ≠ i ∧ l ≠ i ∧ u ≠ l) (hB : B ≠ B') (htop : top e ≤ esz) (hesz : 0 < esz)
    (h : RdEl RT P N nt gE E ver flex K lo' t' u i bp rs c esz e) (O : List Nat) (rb p T n cap : Nat) (a : Act) (w : World) (cs : List Value) (st : Option (List UInt8)) (Q : Exit → Act → World → Prop)
    (hN : a.tmps.size = nt) (hh : Holds ((bp, .pointer (some ⟨rb, 0, none⟩)) :: K) a) (hn : n ≤ 2147483647) (hst : RSt gE E O w rb p cs T st) (hl : aget a l = .int .i32 (n : Nat)) (hu : aget a u = .slice (some ⟨p, 0, none⟩) n cap) (hF : ∀ j, j < n → Fresh cs (j * esz) e)
    (hq : ∀ a' w' cs', RSt gE E O w' rb p cs' T ((st.bind (rdMany (rd ver flex e) n)).map (·.2)) → Fr N lo t nt a a' → aget a' u = .slice (some ⟨p, 0, none⟩) n cap → Keeps [rb, p] w w' → (∀ vs r, st.bind (rdMany (rd ver flex e) n) = some (vs, r) → vs.length = n ∧ ∀ j v, vs[j]? = some v → Rep RT O w' ver flex e p (j * esz) v) → Q .normal a' w')
    (hr : ∀ a' w', st.bind (rdMany (rd ver flex e) n) = none → a'.tmps.size = nt → a'.defers = a.defers → aget a' rs = E → Keeps [rb, p] w w' → Q .ret a' w') :
    ((Code.region r1 #[⟨some i, .assign (.const (.int .i32 0)), ty1, p1, e1, none⟩] false).seq (.block B (.loop
      (((Code.region r2 #[⟨some t2, .move (.tmp i), ty2, p2, e2, none⟩, ⟨some (t2 + 1), .move (.tmp l), ty3, p3, e3, none⟩, ⟨some (t2 + 2), .binOp .lss T2 (.tmp t2) (.tmp (t2 + 1)) U2, ty4, p4, e4, none⟩] false).seq (.cond (.tmp (t2 + 2)) .skip (.exit B))).seq
        ((Code.block B' c).seq (.region r4 #[⟨some t4, .move (.tmp i), ty5, p5, e5, none⟩, ⟨some (t4 + 1), .binOp .add T3 (.tmp t4) (.const (.int .i32 1)) U3, ty6, p6, e6, none⟩, ⟨some i, .assign (.tmp (t4 + 1)), ty7, p7, e7, none⟩] false)))))).wp P Q a w := by
  obtain ⟨d1, d2, d3, d4, d5, d6, d7, d8, d9, d10, d11, d12, d13, d14, d15, d16, d17, d18⟩ := hd
  have g1 := hD.dOne; have g2 := hD.dLo; have g3 := hD.dT; have g4 := hD.dN
  have hk' : KOK N lo t ((bp, .pointer (some ⟨rb, 0, none⟩)) :: K) := fun q hq => by
    simp only [List.mem_cons] at hq
    rcases hq with rfl | hq
    · exact hk (bp, .int .i64 0) (by simp)
    · exact hk q (by simp [hq])
  refine wp_seq (wp_reg (wl_assign_c (wpList_nil ?_)))
  generalize ha1 : Act.put a (some i) (.int .i32 0) = a1
  have hf1 : Fr N lo t nt a a1 := by rw [← ha1]; exact (Fr.refl N lo t nt a).put _ _ (by omega)
  have hN1 : a1.tmps.size = nt := hf1.size.trans hN
  have inv0 : LpInv RT nt gE E ver flex N lo t u i l O rb p T n cap esz e st a1 w cs 0 cs a1 w := by
    refine ⟨Nat.zero_le _, Fr.refl .., ?_, ?_, ?_, ?_, fun j _ hj => hF j hj, Keeps.refl _ _, ?_⟩
    · rw [← ha1]; exact aget_put_same _ _ _ (by omega)
    · rw [← ha1, aget_put_other _ _ _ _ (by omega)]; exact hl
    · rw [← ha1, aget_put_other _ _ _ _ (by omega)]; exact hu
    · cases st <;> exact hst
    · intro vs r hv
      cases st with
      | none => cases hv
      | some bs =>
        simp only [Option.bind_some, rdMany, Pr.pure, Option.some.injEq, Prod.mk.injEq] at hv
        obtain ⟨rfl, rfl⟩ := hv
        exact ⟨rfl, fun j v hj => by simp at hj⟩
  clear ha1
  refine wp_block ?_
  refine wp_loop (fun a' w' => ∃ k cs', LpInv RT nt gE E ver flex N lo t u i l O rb p T n cap esz e st a1 w cs k cs' a' w') (fun a' _ => n - (intOf (aget a' i)).toNat) ⟨0, cs, inv0⟩ ?_
  rintro a2 w2 ⟨k, cs2, I⟩
  have hN2 : a2.tmps.size = nt := I.fr.size.trans hN1
  have hh2 : Holds ((bp, .pointer (some ⟨rb, 0, none⟩)) :: K) a2 := (hh.frR hk' hD hf1).frR hk' hD I.fr
  refine wp_seq (wp_seq (wp_reg ?_))
  refine wl_move I.si ?_
  refine wl_move (v := .int .i32 (n : Nat)) (by rw [aget_put_other _ _ _ _ (by omega)]; exact I.sl) ?_
  refine wl_bin2 (r := .bool (decide ((k : Int) < n))) (x := .int .i32 (k : Nat)) (y := .int .i32 (n : Nat)) (by rw [aget_put_other _ _ _ _ (by omega)]; exact aget_put_same _ _ _ (by omega)) (aget_put_same _ _ _ (by simp only [size_put]; omega)) (eqGuard_at_int ..) (by simp [binOp, Op.intCmp]) ?_
  refine wpList_nil ?_
  generalize ha3 : Act.put (Act.put (Act.put a2 (some t2) (.int .i32 (k : Nat))) (some (t2 + 1)) (.int .i32 (n : Nat))) (some (t2 + 2)) (.bool (decide ((k : Int) < n))) = a3
  have hx3 : aget a3 (t2 + 2) = .bool (decide ((k : Int) < n)) := by rw [← ha3]; exact aget_put_same _ _ _ (by simp only [size_put]; omega)
  have hf3 : Fr N lo t nt a2 a3 := by rw [← ha3]; exact (((Fr.refl N lo t nt a2).put _ _ (by omega)).put _ _ (by omega)).put _ _ (by omega)
  have hi3 : aget a3 i = .int .i32 (k : Nat) := by rw [← ha3, aget_put_other _ _ _ _ (by omega), aget_put_other _ _ _ _ (by omega), aget_put_other _ _ _ _ (by omega)]; exact I.si
  have hl3 : aget a3 l = .int .i32 (n : Nat) := by rw [← ha3, aget_put_other _ _ _ _ (by omega), aget_put_other _ _ _ _ (by omega), aget_put_other _ _ _ _ (by omega)]; exact I.sl
  have hu3 : aget a3 u = .slice (some ⟨p, 0, none⟩) n cap := by rw [← ha3, aget_put_other _ _ _ _ (by omega), aget_put_other _ _ _ _ (by omega), aget_put_other _ _ _ _ (by omega)]; exact I.su
  clear ha3
  have hN3 : a3.tmps.size = nt := hf3.size.trans hN2
  by_cases hlt : k < n
  · have hdec : decide ((k : Int) < n) = true := by simp; omega
    rw [hdec] at hx3
    refine wp_cond_true hx3 (wp_skip ?_)
    refine wp_seq (wp_block ?_)
    refine h O rb p T n cap k a3 w2 cs2 _ _ hN3 (((hh2.frR hk' hD hf3).cons hu3).cons hi3) hlt I.rst (I.fresh k (Nat.le_refl _) hlt) ?_ ?_
    · intro a4 w4 cs4 hst4 hf4 hk4 hs4 hv4
      have hN4 : a4.tmps.size = nt := hf4.size.trans hN3
      have hi4 : aget a4 i = .int .i32 (k : Nat) := (hf4.same _ (by omega) (.inl (by omega))).trans hi3
      have hl4 : aget a4 l = .int .i32 (n : Nat) := (hf4.same _ (by omega) (.inl (by omega))).trans hl3
      have hu4 : aget a4 u = .slice (some ⟨p, 0, none⟩) n cap := (hf4.same _ (by omega) (.inl (by omega))).trans hu3
      refine wp_reg ?_
      refine wl_move hi4 ?_
      refine wl_bin (x := .int .i32 (k : Nat)) (r := .int .i32 ((k + 1 : Nat) : Int)) (aget_put_same _ _ _ (by omega)) (eqGuard_at_int ..) ?_ ?_
      · simp only [binOp, Op.intArith]
        have : IntKind.i32.wrap ((k : Int) + 1) = (k : Int) + 1 := by
          rw [IntKind.wrap_i32]
          omega
        simp [this]
      refine wl_assign (aget_put_same _ _ _ (by simp only [size_put]; omega)) ?_
      refine wpList_nil ?_
      have hf5 : Fr N lo t nt a4 (((a4.put (some t4) (.int .i32 (k : Nat))).put (some (t4 + 1)) (.int .i32 ((k + 1 : Nat) : Int))).put (some i) (.int .i32 ((k + 1 : Nat) : Int))) := (((Fr.refl N lo t nt a4).put _ _ (by omega)).put _ _ (by omega)).put _ _ (by omega)
      have hi5 : aget (((a4.put (some t4) (.int .i32 (k : Nat))).put (some (t4 + 1)) (.int .i32 ((k + 1 : Nat) : Int))).put (some i) (.int .i32 ((k + 1 : Nat) : Int))) i = .int .i32 ((k + 1 : Nat) : Int) := aget_put_same _ _ _ (by simp only [size_put]; omega)
      refine ⟨⟨k + 1, cs4, ⟨by omega, I.fr.trans (hf3.trans ((hf4.mono (by omega) (by omega)).trans hf5)), hi5, ?_, ?_, ?_, ?_, I.keeps.trans hk4, ?_⟩⟩, ?_⟩
      · rw [aget_put_other _ _ _ _ (by omega), aget_put_other _ _ _ _ (by omega), aget_put_other _ _ _ _ (by omega)]; exact hl4
      · rw [aget_put_other _ _ _ _ (by omega), aget_put_other _ _ _ _ (by omega), aget_put_other _ _ _ _ (by omega)]; exact hu4
      · rw [st_snoc]
        cases hx : st.bind (rdMany (rd ver flex e) k) with
        | none => rw [hx] at hst4; exact hst4
        | some q =>
          rw [hx] at hst4
          change RSt gE E O w4 rb p cs4 T ((rd ver flex e q.2).map (·.2)) at hst4
          change RSt gE E O w4 rb p cs4 T (((rd ver flex e q.2).bind fun r => some (q.1 ++ [r.1], r.2)).map (·.2))
          cases hy : rd ver flex e q.2 with
          | none => rw [hy] at hst4; exact hst4
          | some r => rw [hy] at hst4; exact hst4
      · intro j hj1 hj2
        have hmul : k * esz + esz ≤ j * esz := by
          have := Nat.mul_le_mul_right esz (show k + 1 ≤ j by omega)
          rw [Nat.add_mul, Nat.one_mul] at this
          exact this
        exact (I.fresh j (by omega) hj2).same hs4 (.inr hmul)
      · intro vs r hv
        rw [st_snoc] at hv
        cases hx : st.bind (rdMany (rd ver flex e) k) with
        | none => rw [hx] at hv; cases hv
        | some q =>
          rw [hx] at hv
          change ((rd ver flex e q.2).bind fun r => some (q.1 ++ [r.1], r.2)) = _ at hv
          cases hy : rd ver flex e q.2 with
          | none => rw [hy] at hv; cases hv
          | some r2 =>
            rw [hy] at hv
            simp only [Option.bind_some, Option.some.injEq, Prod.mk.injEq] at hv
            obtain ⟨rfl, rfl⟩ := hv
            obtain ⟨hlen, hrep⟩ := I.done q.1 q.2 hx
            refine ⟨by simp [hlen], fun j v hj => ?_⟩
            by_cases hjk : j < k
            · rw [List.getElem?_append_left (by omega)] at hj
              refine (hrep j v hj).move hRT (I.rst.keepO hk4) fun m hm => ?_
              have hmul : j * esz + esz ≤ k * esz := by
                have := Nat.mul_le_mul_right esz (show j + 1 ≤ k by omega)
                rw [Nat.add_mul, Nat.one_mul] at this
                exact this
              exact I.rst.blk.same hst4.blk hs4 _ (.inl (by omega))
            · have hjk2 : j = k := by
                have := (List.getElem?_eq_some_iff.1 hj).1
                simp [hlen] at this
                omega
              subst hjk2
              rw [List.getElem?_append_right (by omega), hlen, Nat.sub_self] at hj
              simp at hj
              subst hj
              exact hv4 r2.1 r2.2 (by rw [hx]; exact hy)
      · rw [hi5, I.si]
        simp [intOf]
        omega
    · intro a4 w4 hn4 hs4 hd4 hE4 hk4
      refine hr a4 w4 ?_ hs4 (hd4.trans (hf3.defers.trans (I.fr.defers.trans hf1.defers))) hE4 (I.keeps.trans hk4)
      refine st_none (k := k + 1) ?_ (by omega)
      rw [st_snoc]
      cases hx : st.bind (rdMany (rd ver flex e) k) with
      | none => rfl
      | some q =>
        rw [hx] at hn4
        change rd ver flex e q.2 = none at hn4
        change ((rd ver flex e q.2).bind fun r => some (q.1 ++ [r.1], r.2)) = none
        rw [hn4]
        rfl
  · have hdec : decide ((k : Int) < n) = false := by simp; omega
    rw [hdec] at hx3
    have hkn : k = n := by have := I.le; omega
    subst hkn
    refine wp_cond_false hx3 (wp_exit ?_)
    simp only [Exit.then, Exit.inBlock, if_true]
    exact hq a3 w2 cs2 I.rst (hf1.trans (I.fr.trans hf3)) hu3 I.keeps I.done
/-- The loop over nothing. -/
theorem rd_for0 {i l t2 t4 B B' r1 r2 r4 T2 U2 T3 U3 ty1 ty2 ty3 ty4 ty5 ty6 ty7 : Nat} {p1 p2 p3 p4 p5 p6 p7 : String} {e1 e2 e3 e4 e5 e6 e7 : Array Edge} {c : Code}
    (hD : Dims N nt lo t) (hd : t ≤ t2 ∧ t2 + 2 < nt ∧ lo ≤ l ∧ l < N ∧ lo ≤ i ∧ i < N ∧ l ≠ i) (a : Act) (w : World) (n : Int) (Q : Exit → Act → World → Prop)
    (hN : a.tmps.size = nt) (hn : n ≤ 0) (hl : aget a l = .int .i32 n) (hq : ∀ a', Fr N lo t nt a a' → (∀ s, s ≠ i → s < N → aget a' s = aget a s) → Q .normal a' w) :
    ((Code.region r1 #[⟨some i, .assign (.const (.int .i32 0)), ty1, p1, e1, none⟩] false).seq (.block B (.loop
      (((Code.region r2 #[⟨some t2, .move (.tmp i), ty2, p2, e2, none⟩, ⟨some (t2 + 1), .move (.tmp l), ty3, p3, e3, none⟩, ⟨some (t2 + 2), .binOp .lss T2 (.tmp t2) (.tmp (t2 + 1)) U2, ty4, p4, e4, none⟩] false).seq (.cond (.tmp (t2 + 2)) .skip (.exit B))).seq
        ((Code.block B' c).seq (.region r4 #[⟨some t4, .move (.tmp i), ty5, p5, e5, none⟩, ⟨some (t4 + 1), .binOp .add T3 (.tmp t4) (.const (.int .i32 1)) U3, ty6, p6, e6, none⟩, ⟨some i, .assign (.tmp (t4 + 1)), ty7, p7, e7, none⟩] false)))))).wp P Q a w := by
  obtain ⟨d1, d2, d3, d4, d5, d6, d7⟩ := hd
  have g1 := hD.dOne; have g2 := hD.dLo; have g3 := hD.dT; have g4 := hD.dN
  refine wp_seq (wp_reg (wl_assign_c (wpList_nil ?_)))
  refine wp_block ?_
  refine wp_loop (fun a' w' => a' = a.put (some i) (.int .i32 0) ∧ w' = w) (fun _ _ => 0) ⟨rfl, rfl⟩ ?_
  rintro a2 w2 ⟨rfl, rfl⟩
  refine wp_seq (wp_seq (wp_reg ?_))
  refine wl_move (v := .int .i32 0) (aget_put_same _ _ _ (by omega)) ?_
  refine wl_move (v := .int .i32 n) (by rw [aget_put_other _ _ _ _ (by omega), aget_put_other _ _ _ _ (by omega)]; exact hl) ?_
  refine wl_bin2 (r := .bool (decide ((0 : Int) < n))) (x := .int .i32 0) (y := .int .i32 n) (by rw [aget_put_other _ _ _ _ (by omega)]; exact aget_put_same _ _ _ (by simp only [size_put]; omega)) (aget_put_same _ _ _ (by simp only [size_put]; omega)) (eqGuard_at_int ..) (by simp [binOp, Op.intCmp]) ?_
  refine wpList_nil ?_
  have hdec : decide ((0 : Int) < n) = false := by simp; omega
  rw [hdec]
  refine wp_cond_false (aget_put_same _ _ _ (by simp only [size_put]; omega)) (wp_exit ?_)
  simp only [Exit.then, Exit.inBlock, if_true]
  refine hq _ (((((Fr.refl N lo t nt a).put _ _ (by omega)).put _ _ (by omega)).put _ _ (by omega)).put _ _ (by omega)) fun s hs hs2 => ?_
  rw [aget_put_other _ _ _ s (by omega), aget_put_other _ _ _ s (by omega), aget_put_other _ _ _ s (by omega), aget_put_other _ _ _ s (by omega)]
end
end Go.Proofs.YtfchajjllhndlabGreatDoor

/- The code that reads a list: its count, the room, the loop, the store. -/
namespace Go.Proofs.YtfchajjllhndlabGreatDoor
open Go Go.RowKit
set_option linter.unusedVariables false

section
variable {RT : RTags} {P : Program} {N nt gE : Nat} {E : Value} {K : Slots} {lo t : Nat} {ver : Int} {flex : Bool}
/-- What is asked of Ok and Complete. -/
def OkC (P : Program) (F : Nat) : Prop := ∀ (O : List Nat) (rb : Nat) (w : World) (st : Option (List UInt8)), Rdr O w rb st → Calls P F #[.pointer (some ⟨rb, 0, none⟩)] w fun e w' => e = .returned (.bool st.isSome) ∧ w = w'
def CompleteC (P : Program) (F gE : Nat) (E : Value) : Prop := ∀ (O : List Nat) (rb : Nat) (w : World) (st : Option (List UInt8)), Rdr O w rb st → w.cell? ⟨gE, 0, none⟩ = some E → Calls P F #[.pointer (some ⟨rb, 0, none⟩)] w fun e w' => e = .returned (if st.isSome then .nilIface else E) ∧ w = w'
theorem wl_not {w : World} {ops : Array Oper} {rest : List Oper} {a : Act} {Q : Exit → Act → World → Prop} {d s T : Nat} {ty : TypeId} {pos : String} {af : Array Edge} {x : Bool} (hs : aget a s = .bool x) (h : wpList P ops Q rest (a.put (some d) (.bool (!x))) w) :
    wpList P ops Q (⟨some d, .unOp .not T (.tmp s), ty, pos, af, none⟩ :: rest) a w :=
  wl_value (v := .bool (!x)) (w' := w) rfl (by simp [execOp, aget_eval, hs, Op.unary]) h
/-- 'return b.Complete()'. -/
theorem reg_complete {bp rs t1 F r ty1 ty2 : Nat} {p1 p2 : String} {e1 e2 : Array Edge} {at_ : Array TypeId} {O : List Nat} {w : World} {rb : Nat} {st : Option (List UInt8)} {a : Act} {Q : Exit → Act → World → Prop} (he : Enters P F) (hC : CompleteC P F gE E)
    (hN : a.tmps.size = nt) (hbp : aget a bp = .pointer (some ⟨rb, 0, none⟩)) (hr : Rdr O w rb st) (hE : w.cell? ⟨gE, 0, none⟩ = some E) (hd : t1 < nt ∧ rs < nt)
    (h : ∀ a', a'.tmps.size = nt → a'.defers = a.defers → aget a' rs = (if st.isSome then .nilIface else E) → Q .ret a' w) :
    ((Code.region r #[⟨some t1, .call { callee := .value (.func F), args := #[.tmp bp], argTypes := at_ }, ty1, p1, e1, none⟩, ⟨some rs, .assign (.tmp t1), ty2, p2, e2, none⟩] false).seq .ret).wp P Q a w := by
  refine wp_seq (wp_reg ?_)
  refine wl_call (R := fun e w' => e = .returned (if st.isSome then .nilIface else E) ∧ w = w') he ?_ ?_
  · simp only [List.map_toArray, List.map_cons, List.map_nil, aget_eval]
    rw [hbp]
    exact hC O rb w st hr hE
  rintro e w' ⟨rfl, rfl⟩
  refine ⟨_, rfl, ?_⟩
  refine wl_assign (aget_put_same _ _ _ (by rw [hN]; omega)) ?_
  refine wpList_nil (wp_ret (h _ (by simp only [size_put, hN]) (by simp only [defers_put]) (aget_put_same _ _ _ (by simp only [size_put]; omega))))
/-- 'if !b.Ok() { return b.Complete() }'. -/
theorem reg_ok {bp rs t1 t2 F F2 U r r2 ty1 ty2 ty3 ty4 : Nat} {p1 p2 p3 p4 : String} {e1 e2 e3 e4 : Array Edge} {at_ at2 : Array TypeId} {O : List Nat} {w : World} {rb : Nat} {st : Option (List UInt8)} {a : Act} {Q : Exit → Act → World → Prop} (he : Enters P F) (hO : OkC P F) (he2 : Enters P F2) (hC : CompleteC P F2 gE E)
    (hN : a.tmps.size = nt) (hbp : aget a bp = .pointer (some ⟨rb, 0, none⟩)) (hr : Rdr O w rb st) (hE : w.cell? ⟨gE, 0, none⟩ = some E) (hD : Dims N nt lo t) (hd : t ≤ t1 ∧ t1 + 1 < nt ∧ t2 < nt ∧ rs < nt ∧ bp ≠ t1 ∧ bp ≠ t1 + 1)
    (hq : ∀ a', st.isSome = true → Fr N lo t nt a a' → (∀ s, s < N → aget a' s = aget a s) → Q .normal a' w) (hret : ∀ a', st = none → a'.tmps.size = nt → a'.defers = a.defers → aget a' rs = E → Q .ret a' w) :
    ((Code.region r #[⟨some t1, .call { callee := .value (.func F), args := #[.tmp bp], argTypes := at_ }, ty1, p1, e1, none⟩, ⟨some (t1 + 1), .unOp .not U (.tmp t1), ty2, p2, e2, none⟩] false).seq
      (.cond (.tmp (t1 + 1)) ((Code.region r2 #[⟨some t2, .call { callee := .value (.func F2), args := #[.tmp bp], argTypes := at2 }, ty3, p3, e3, none⟩, ⟨some rs, .assign (.tmp t2), ty4, p4, e4, none⟩] false).seq .ret) .skip)).wp P Q a w := by
  have g2 := hD.dLo; have g3 := hD.dT; have g4 := hD.dN
  refine wp_seq (wp_reg ?_)
  refine wl_call (R := fun e w' => e = .returned (.bool st.isSome) ∧ w = w') he ?_ ?_
  · simp only [List.map_toArray, List.map_cons, List.map_nil, aget_eval]
    rw [hbp]
    exact hO O rb w st hr
  rintro e w' ⟨rfl, rfl⟩
  refine ⟨_, rfl, ?_⟩
  refine wl_not (x := st.isSome) (aget_put_same _ _ _ (by rw [hN]; omega)) ?_
  refine wpList_nil ?_
  have hf : Fr N lo t nt a ((a.put (some t1) (.bool st.isSome)).put (some (t1 + 1)) (.bool (!st.isSome))) := ((Fr.refl N lo t nt a).put _ _ (by omega)).put _ _ (by omega)
  have hx : aget ((a.put (some t1) (.bool st.isSome)).put (some (t1 + 1)) (.bool (!st.isSome))) (t1 + 1) = .bool (!st.isSome) := aget_put_same _ _ _ (by simp only [size_put]; omega)
  have hs : ∀ s, s < N → aget ((a.put (some t1) (.bool st.isSome)).put (some (t1 + 1)) (.bool (!st.isSome))) s = aget a s := fun s h => by rw [aget_put_other _ _ _ s (by omega), aget_put_other _ _ _ s (by omega)]
  have hb2 : aget ((a.put (some t1) (.bool st.isSome)).put (some (t1 + 1)) (.bool (!st.isSome))) bp = .pointer (some ⟨rb, 0, none⟩) := by rw [aget_put_other _ _ _ _ (by omega), aget_put_other _ _ _ _ (by omega)]; exact hbp
  generalize ((a.put (some t1) (.bool st.isSome)).put (some (t1 + 1)) (.bool (!st.isSome))) = a2 at *
  cases st with
  | none =>
    refine wp_cond_true hx ?_
    exact reg_complete he2 hC (hf.size.trans hN) hb2 hr hE ⟨by omega, by omega⟩ fun a' h1 h2 h3 => hret a' rfl h1 (h2.trans hf.defers) h3
  | some bs => exact wp_cond_false hx (wp_skip (hq a2 rfl hf hs))
/-- The code c reads a count into slot l. -/
def RdLn (P : Program) (N nt gE : Nat) (E : Value) (flex : Bool) (K : Slots) (lo t bp : Nat) (c : Code) (l : Nat) : Prop :=
  ∀ (O : List Nat) (rb b T : Nat) (a : Act) (w : World) (cs : List Value) (st : Option (List UInt8)) (Q : Exit → Act → World → Prop), a.tmps.size = nt → Holds ((bp, .pointer (some ⟨rb, 0, none⟩)) :: K) a → RSt gE E O w rb b cs T st →
    (∀ a' w' n, aget a' l = .int .i32 n → RSt gE E O w' rb b cs T ((st.bind (rdLen flex)).map (·.2)) → Fr N lo t nt a a' → (∀ s, s ≠ l → s < N → aget a' s = aget a s) → Keeps [rb] w w' → (∀ m r, st.bind (rdLen flex) = some (m, r) → m = n) → Q .normal a' w') → c.wp P Q a w
theorem rdLn_call {bp l t1 F r ty1 ty2 : Nat} {p1 p2 : String} {e1 e2 : Array Edge} {at_ : Array TypeId} (he : Enters P F) (hC : RdC P F (rdLen flex) (fun _ _ v n => v = .int .i32 n) (fun v => ∃ n, v = .int .i32 n)) (hD : Dims N nt lo t) (hd : t ≤ t1 ∧ t1 < nt ∧ lo ≤ l ∧ l < N) :
    RdLn P N nt gE E flex K lo t bp (Code.region r #[⟨some t1, .call { callee := .value (.func F), args := #[.tmp bp], argTypes := at_ }, ty1, p1, e1, none⟩, ⟨some l, .assign (.tmp t1), ty2, p2, e2, none⟩] false) l := by
  intro O rb b T a w cs st Q hN hh hst hq
  obtain ⟨d1, d2, d3, d4⟩ := hd
  have g2 := hD.dLo; have g3 := hD.dT; have g4 := hD.dN
  refine wp_reg ?_
  refine wl_call (R := RdPost (rdLen flex) (fun _ _ v n => v = .int .i32 n) (fun v => ∃ n, v = .int .i32 n) O rb w st) he ?_ ?_
  · simp only [List.map_toArray, List.map_cons, List.map_nil, aget_eval]
    rw [hh.head]
    exact hC O rb w st hst.rbO hst.lt hst.rdr
  rintro e w' ⟨v, rfl, hr, hk, hbad, hgood⟩
  refine ⟨v, rfl, ?_⟩
  obtain ⟨n, rfl, hn⟩ : ∃ n, v = .int .i32 n ∧ ∀ m r, st.bind (rdLen flex) = some (m, r) → m = n := by
    cases hx : st.bind (rdLen flex) with
    | none =>
      obtain ⟨n, rfl⟩ := hbad hx
      exact ⟨n, rfl, fun m r h => nomatch h⟩
    | some q =>
      refine ⟨q.1, hgood q.1 q.2 hx, fun m r h => ?_⟩
      cases h
      rfl
  refine wl_assign (aget_put_same _ _ _ (by rw [hN]; omega)) ?_
  refine wpList_nil (hq _ w' n (aget_put_same _ _ _ (by simp only [size_put]; omega)) (hst.call hr hk) (((Fr.refl N lo t nt a).put _ _ (by omega)).put _ _ (by omega)) (fun s h1 h2 => ?_) hk hn)
  rw [aget_put_other _ _ _ s (by omega), aget_put_other _ _ _ s (by omega)]
theorem rdLn_flag {bp l sf t1 r ty1 : Nat} {p1 : String} {e1 : Array Edge} {c1 c2 : Code} (hk : KOK N lo t ((bp, .int .i64 0) :: K)) (hf : (sf, Value.bool flex) ∈ K) (hD : Dims N nt lo t) (hd : t ≤ t1 ∧ t1 < nt)
    (h1 : flex = true → RdLn P N nt gE E flex K lo t bp c1 l) (h2 : flex = false → RdLn P N nt gE E flex K lo t bp c2 l) :
    RdLn P N nt gE E flex K lo t bp ((Code.region r #[⟨some t1, .move (.tmp sf), ty1, p1, e1, none⟩] false).seq (.cond (.tmp t1) c1 c2)) l := by
  intro O rb b T a w cs st Q hN hh hst hq
  have g2 := hD.dLo; have g3 := hD.dT; have g4 := hD.dN
  have hk' : KOK N lo t ((bp, .pointer (some ⟨rb, 0, none⟩)) :: K) := fun p hp => by
    simp only [List.mem_cons] at hp
    rcases hp with rfl | hp
    · exact hk (bp, .int .i64 0) (by simp)
    · exact hk p (by simp [hp])
  refine wp_seq (wp_reg (wl_move (hh _ (List.mem_cons_of_mem _ hf)) (wpList_nil ?_)))
  have hfr : Fr N lo t nt a (a.put (some t1) (.bool flex)) := (Fr.refl N lo t nt a).put _ _ (by omega)
  have hx : aget (a.put (some t1) (.bool flex)) t1 = .bool flex := aget_put_same _ _ _ (by omega)
  have hs : ∀ s, s < N → aget (a.put (some t1) (.bool flex)) s = aget a s := fun s h => aget_put_other _ _ _ _ (by omega)
  generalize a.put (some t1) (.bool flex) = a1 at *
  cases flex
  · exact wp_cond_false hx (h2 rfl O rb b T a1 w cs st Q (hfr.size.trans hN) (hh.frR hk' hD hfr) hst fun a2 w2 n k1 k2 k3 k4 => hq a2 w2 n k1 k2 (hfr.trans k3) fun s q1 q2 => (k4 s q1 q2).trans (hs s q2))
  · exact wp_cond_true hx (h1 rfl O rb b T a1 w cs st Q (hfr.size.trans hN) (hh.frR hk' hD hfr) hst fun a2 w2 n k1 k2 k3 k4 => hq a2 w2 n k1 k2 (hfr.trans k3) fun s q1 q2 => (k4 s q1 q2).trans (hs s q2))
theorem rd_list (ver : Int) (flex : Bool) (nul : Option Int) (z : Nat) (e : Sch) (st : Option (List UInt8)) : st.bind (rd ver flex (.list nul z e)) = (st.bind (rdLen flex)).bind fun q => (if q.1 < 0 ∧ nullAt nul ver = true then some (.null, q.2) else (rdMany (rd ver flex e) q.1.toNat q.2).bind fun r => some (.list r.1, r.2)) := by
  have h : rd ver flex (.list nul z e) = (rdLen flex).bind fun n => if n < 0 ∧ nullAt nul ver = true then .pure .null else (rdMany (rd ver flex e) n.toNat).bind fun l => .pure (.list l) := rfl
  rw [h, bind_st]
  congr 1
  funext q
  split
  · rfl
  · cases hx : rdMany (rd ver flex e) q.1.toNat q.2 with
    | none => rw [bind_none hx]; rfl
    | some r => rw [bind_eq (v := r.1) (r := r.2) hx]; rfl
end
end Go.Proofs.YtfchajjllhndlabGreatDoor
