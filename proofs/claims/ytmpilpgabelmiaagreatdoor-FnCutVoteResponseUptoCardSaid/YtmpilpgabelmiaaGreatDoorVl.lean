/- Shared texts of these proofs, laid together by merge.py: Gx, Kdu, Ksh. -/
import Derived.Test.YtmpilpgabelmiaaGreatDoorVk
import Derived.Test.YtmpilpgabelmiaaGreatDoorVh
import Derived.Test.YtmpilpgabelmiaaGreatDoorVi
set_option linter.unusedVariables false
/- A message with tags: what the reference writes is read, written the same; what is cut of it is not read. No program in sight. -/
namespace Go.Proofs.YtmpilpgabelmiaaGreatDoor
set_option linter.unusedVariables false

def lenM : Sch → Nat
  | .cons _ _ _ _ rest => lenM rest
  | .ktag off d f rest => lenK (.ktag off d f rest)
  | _ => 0
theorem known_agM {ver : Int} {flex : Bool} : ∀ {s : Sch} {fs : PFs}, agM ver flex s fs = true → fs.known = lenM s
  | .cons _ lo hi f rest, .cons k fr to nu tg df ok sub prest, h => by
    simp only [agM, Bool.and_eq_true, decide_eq_true_eq] at h
    have ih := known_agM h.2
    have h1 := h.1.1.1
    simp only [PFs.known, lenM, ih]
    rw [if_neg (by omega)]
    omega
  | .ktag off d f rest, fs, h => by
    have := known_agT (s := .ktag off d f rest) (m := 0) h
    rw [this]
    simp [lenM, lenK]
  | .cons .., .nil, h => by cases h
  | .leaf _, _, h => by cases h
  | .list _ _ _, _, h => by cases h
  | .opt _, _, h => by cases h
  | .done, _, h => by cases h
  | .tags _, _, h => by cases h
theorem gvM_ap {ver : Int} {flex : Bool} {F : PFs} {t : Tree} : ∀ {s : Sch} {fs : PFs} {i : Nat}, agM ver flex s fs = true → F.known = lenM s → (∀ k, pOne ver true k F 0 t = pOne ver true k fs i t) →
    pFields ver flex fs i t ++ pTailT ver flex F t = ap ver flex s (gvM ver flex F.known s fs i t)
  | .cons _ lo hi f rest, .cons k fr to nu tg df ok sub prest, i, h, hk, hone => by
    simp only [agM, Bool.and_eq_true, decide_eq_true_eq, beq_iff_eq, Bool.or_eq_true, Bool.not_eq_true'] at h
    obtain ⟨⟨⟨h1, h2⟩, h3⟩, h4⟩ := h
    have r2 := gvM_ap (i := i + 1) h4 hk (fun j => by
      rw [hone j]
      have hne : ¬ (tg = (j : Int) ∧ usualT k df (atT t i) = false) := by omega
      simp only [pOne, if_neg hne, List.nil_append])
    simp only [pFields, gvM, ap, decide_eq_true h1, Bool.true_and, h2]
    rw [List.append_assoc, r2]
    congr 1
    by_cases hv : hasV lo hi ver = true
    · rw [if_pos hv, if_pos hv]
      have h3' := h3.resolve_left (by rw [hv]; exact fun h => by cases h)
      exact (gv_ap ver flex f true k nu ok sub h3').1 rfl (atT t i)
    · rw [if_neg hv, if_neg hv]
  | .ktag off d f rest, fs, i, h, hk, hone => by
    rw [pFields_tagged (s := .ktag off d f rest) (m := 0) h, List.nil_append]
    exact tail_ktag h hk hone
  | .cons .., .nil, _, h, _, _ => by cases h
  | .leaf _, _, _, h, _, _ => by cases h
  | .list _ _ _, _, _, h, _, _ => by cases h
  | .opt _, _, _, h, _, _ => by cases h
  | .done, _, _, h, _, _ => by cases h
  | .tags _, _, _, h, _, _ => by cases h
/-- Only numbers among the known tags. -/
def numsT : Sch → Bool
  | .ktag _ _ (.leaf _) rest => numsT rest
  | .tags _ => true
  | _ => false
theorem end_nums {ver : Int} : ∀ {s : Sch} {fs : PFs} {m i : Nat} {t : Tree}, numsT s = true → agT ver true s fs m = true → ∀ x ∈ endT ver s fs m i t, x.2.length ≤ 4294967295
  | .ktag off d (.leaf lf) rest, .cons k fr to nu tg df ok sub prest, m, i, t, hn, h, x, hx => by
    simp only [agT, Bool.and_eq_true, decide_eq_true_eq] at h
    simp only [endT, List.mem_append] at hx
    rcases hx with hx | hx
    · split at hx
      · rw [List.mem_singleton] at hx
        subst hx
        rw [ag_field h.1.2]
        have hu := h.1.1.2
        cases lf <;> simp only [agU, Bool.and_eq_true, decide_eq_true_eq] at hu <;> try exact absurd hu (by decide)
        · simp [ap, gvS, gvLeaf, apLeaf, be16]
        · simp [ap, gvS, gvLeaf, apLeaf, be64]
      · cases hx
    · exact end_nums (s := rest) hn h.2 x hx
  | .tags _, fs, m, i, t, _, _, x, hx => by simp [endT] at hx
  | .ktag _ _ (.list _ _ _) _, _, _, _, _, hn, _, _, _ => by cases hn
  | .ktag _ _ (.opt _) _, _, _, _, _, hn, _, _, _ => by cases hn
  | .ktag _ _ .done _, _, _, _, _, hn, _, _, _ => by cases hn
  | .ktag _ _ (.tags _) _, _, _, _, _, hn, _, _, _ => by cases hn
  | .ktag _ _ (.cons ..) _, _, _, _, _, hn, _, _, _ => by cases hn
  | .ktag _ _ (.ktag ..) _, _, _, _, _, hn, _, _, _ => by cases hn
  | .ktag _ _ (.leaf _) _, .nil, _, _, _, _, h, _, _ => by cases h
  | .leaf _, _, _, _, _, hn, _, _, _ => by cases hn
  | .list _ _ _, _, _, _, _, hn, _, _, _ => by cases hn
  | .opt _, _, _, _, _, hn, _, _, _ => by cases hn
  | .done, _, _, _, _, hn, _, _, _ => by cases hn
  | .cons .., _, _, _, _, hn, _, _, _ => by cases hn
theorem kt_le (ver : Int) (flex : Bool) : ∀ (s : Sch) (i : Nat) (v : GV), (kt ver flex s i v).length ≤ lenK s + (kus s v).length
  | .ktag _ d f rest, i, .cons v vs => by
    have := kt_le ver flex rest (i + 1) vs
    simp only [kt, kus, lenK, List.length_append]
    split <;> simp <;> omega
  | .tags _, _, v => by cases v <;> simp [kt, kus]
  | .ktag _ _ _ _, _, .int _ => by simp [kt]
  | .ktag _ _ _ _, _, .bool _ => by simp [kt]
  | .ktag _ _ _ _, _, .bytes _ => by simp [kt]
  | .ktag _ _ _ _, _, .null => by simp [kt]
  | .ktag _ _ _ _, _, .list _ => by simp [kt]
  | .ktag _ _ _ _, _, .tags _ => by simp [kt]
  | .ktag _ _ _ _, _, .unit => by simp [kt]
  | .leaf _, _, _ => by simp [kt]
  | .list _ _ _, _, _ => by simp [kt]
  | .opt _, _, _ => by simp [kt]
  | .done, _, _ => by simp [kt]
  | .cons .., _, _ => by simp [kt]
/-- What is as by default is short. -/
theorem usual_short {ver : Int} {flex : Bool} {f : Sch} {d : Int} {v : GV} (hk : knd f d = true) (hu : usual f d v = true) (hv : WF ver flex f v) : (ap ver flex f v).length ≤ 100 := by
  cases f with
  | leaf lf =>
    cases lf <;> simp [knd] at hk <;> cases v <;> simp [usual] at hu
    · simp [ap, apLeaf, be16]
    · simp [ap, apLeaf, be64]
    · subst hu; simp [ap, apLeaf]
    · simp only [ap, apLeaf, nulS]
      cases flex
      · simp [be16]
      · have := uv_len10 0
        simp only [if_true]
        omega
  | list nul z e =>
    cases v <;> simp [usual] at hu
    subst hu
    simp only [ap, lenB, List.length_nil, List.flatMap_nil, List.append_nil]
    cases flex
    · simp [be32]
    · have := uv_len10 (0 + 1)
      simp only [if_true]
      omega
  | _ => simp [knd] at hk
theorem unkN_ok {kN : Nat} {u : List (Nat × List UInt8)} (h : ∀ kv ∈ u, kv.1 ≤ 4294967295) : rising (unkN kN u) ∧ (unkN kN u).length ≤ 32767 ∧ (∀ t ∈ unkN kN u, t.1 ≤ 4294967295) ∧ ∀ t ∈ unkN kN u, kN ≤ t.1 := by
  have hsub : ∀ t ∈ (u.take 32767).filter (fun t => decide (kN ≤ t.1)), t.1 ≤ 4294967295 ∧ kN ≤ t.1 := fun t ht => by
    obtain ⟨h1, h2⟩ := List.mem_filter.1 ht
    exact ⟨h t (List.mem_of_mem_take h1), by simpa using h2⟩
  obtain ⟨h1, h2, h3⟩ := foldl_insU _ [] trivial (fun t ht => nomatch ht) (fun t ht => (hsub t ht).1)
  refine ⟨h1, ?_, h3, ?_⟩
  · have h4 : (unkN kN u).length ≤ ([] : List (Nat × List UInt8)).length + ((u.take 32767).filter fun t => decide (kN ≤ t.1)).length := h2
    have h5 := List.length_filter_le (fun t : Nat × List UInt8 => decide (kN ≤ t.1)) (u.take 32767)
    simp only [List.length_nil, Nat.zero_add, List.length_take] at h4 h5
    omega
  · have key : ∀ (l acc : List (Nat × List UInt8)), (∀ t ∈ acc, kN ≤ t.1) → (∀ t ∈ l, kN ≤ t.1) → ∀ t ∈ l.foldl (fun acc t => insU t.1 t.2 acc) acc, kN ≤ t.1 := by
      intro l
      induction l with
      | nil => intro acc h1 _ t ht; exact h1 t ht
      | cons x l ih =>
        intro acc h1 h2 t ht
        refine ih (insU x.1 x.2 acc) (fun u hu => ?_) (fun u hu => h2 u (List.mem_cons_of_mem _ hu)) t ht
        rcases insU_mem acc x.1 x.2 u hu with rfl | hu
        · exact h2 x (List.mem_cons_self ..)
        · exact h1 u hu
    exact key _ [] (fun t ht => nomatch ht) (fun t ht => (hsub t ht).2)
theorem kus_gvM {ver : Int} {flex : Bool} {kN : Nat} {t : Tree} : ∀ {s : Sch} {fs : PFs} {m i : Nat}, agT ver flex s fs m = true → kus s (gvM ver flex kN s fs i t) = if flex then (unkN kN t.u).map fun u => (u.1, whole u.2) else []
  | .ktag _ d f rest, .cons k fr to nu tg df ok sub prest, m, i, h => by
    simp only [agT, Bool.and_eq_true, decide_eq_true_eq] at h
    simp only [gvM, kus]
    exact kus_gvM h.2
  | .tags _, .nil, _, _, _ => rfl
  | .tags _, .cons .., _, _, h => by cases h
  | .ktag .., .nil, _, _, h => by cases h
  | .leaf _, _, _, _, h => by cases h
  | .list _ _ _, _, _, _, h => by cases h
  | .opt _, _, _, _, h => by cases h
  | .done, _, _, _, h => by cases h
  | .cons .., _, _, _, h => by cases h
theorem wf_end {ver : Int} {flex : Bool} {kN : Nat} {t : Tree} (ht : TW t) : ∀ {s : Sch} {fs : PFs} {m i : Nat}, agT ver flex s fs m = true → lenK s ≤ kN → kN ≤ 1000 → (flex = true → ∀ x ∈ endT ver s fs m i t, x.2.length ≤ 4294967295) →
    WF ver flex s (gvM ver flex kN s fs i t)
  | .ktag off d f rest, .cons k fr to nu tg df ok sub prest, m, i, h, hl, hl2, hx => by
    have h0 := h
    simp only [agT, Bool.and_eq_true, decide_eq_true_eq] at h
    obtain ⟨⟨⟨h1, h2⟩, h3⟩, h4⟩ := h
    have hch := agT_chain h4
    simp only [lenK] at hl
    have ih := wf_end ht (kN := kN) (i := i + 1) h4 (by omega) hl2 (fun hf x hm => hx hf x (by simp only [endT, List.mem_append]; exact .inr hm))
    have hkd := ag_knd h2
    have hkus := kus_gvM (kN := kN) (t := t) (i := i + 1) h4
    obtain ⟨u1, u2, u3, u4⟩ := unkN_ok (kN := kN) ht.keys
    have hkl : (kus rest (gvM ver flex kN rest prest (i + 1) t)).length ≤ 32767 := by
      rw [hkus]
      cases flex
      · simp
      · simp; omega
    have hcount : ((if usual f d (if flex then gvS ver flex f nu sub 0 (atT t i) else dfl f d) then [] else [(0, ap ver flex f (if flex then gvS ver flex f nu sub 0 (atT t i) else dfl f d))]) ++ kt ver flex rest 1 (gvM ver flex kN rest prest (i + 1) t)).length ≤ 4294967295 := by
      have := kt_le ver flex rest 1 (gvM ver flex kN rest prest (i + 1) t)
      have hle : ∀ (b : Bool) (x : Nat × List UInt8), (if b then [] else [x] : List (Nat × List UInt8)).length ≤ 1 := fun b x => by cases b <;> simp
      have := hle (usual f d (if flex then gvS ver flex f nu sub 0 (atT t i) else dfl f d)) (0, ap ver flex f (if flex then gvS ver flex f nu sub 0 (atT t i) else dfl f d))
      rw [List.length_append]
      omega
    have hkus2 : ∀ u ∈ kus rest (gvM ver flex kN rest prest (i + 1) t), (chainL rest).length + 1 ≤ u.1 := by
      intro u hu
      rw [hkus] at hu
      rw [← lenK_chain rest hch]
      cases flex
      · cases hu
      · simp only [if_true, List.mem_map] at hu
        obtain ⟨y, hy, rfl⟩ := hu
        have := u4 y hy
        simp only
        omega
    simp only [gvM, WF]
    cases flex
    · exact ⟨(dfl_wf hkd).1, (dfl_wf hkd).2, ih, hkus2, hcount⟩
    · have hw : WF ver true f (gvS ver true f nu sub 0 (atT t i)) := gv_wf ver true f true k nu ok sub h3 0 (atT t i) (ht.at i)
      refine ⟨hw, ?_, ih, hkus2, hcount⟩
      simp only [if_true]
      cases hu : usual f d (gvS ver true f nu sub 0 (atT t i)) with
      | true => have := usual_short hkd hu hw; omega
      | false =>
        rw [ag_usual (ver := ver) (ok := ok) (sub := sub) h2] at hu
        have := hx rfl (m, pField ver true k nu ok (pPart ver true sub) (atT t i)) (by simp [endT, hu])
        rw [ag_field h3] at this
        exact this
  | .tags off, .nil, m, i, h, hl, hl2, hx => by
    obtain ⟨u1, u2, u3, u4⟩ := unkN_ok (kN := kN) ht.keys
    cases flex
    · exact ⟨trivial, by simp, (fun u hu => nomatch hu), fun _ => rfl⟩
    · refine ⟨rising_map whole u1, ?_, ?_, fun h => nomatch h⟩
      · simp; omega
      · intro u hu
        simp only [if_true, List.mem_map] at hu
        obtain ⟨x, hx, rfl⟩ := hu
        have := whole_length x.2
        exact ⟨u3 x hx, by simp only; omega⟩
  | .tags _, .cons .., _, _, h, _, _, _ => by cases h
  | .ktag .., .nil, _, _, h, _, _, _ => by cases h
  | .leaf _, _, _, _, h, _, _, _ => by cases h
  | .list _ _ _, _, _, _, h, _, _, _ => by cases h
  | .opt _, _, _, _, h, _, _, _ => by cases h
  | .done, _, _, _, h, _, _, _ => by cases h
  | .cons .., _, _, _, h, _, _, _ => by cases h
theorem wf_gvM {ver : Int} {flex : Bool} {kN : Nat} {F : PFs} {t : Tree} (ht : TW t) (hx : flex = true → ∀ k, ∀ x ∈ pOne ver true k F 0 t, x.2.length ≤ 4294967295) : ∀ {s : Sch} {fs : PFs} {i : Nat}, agM ver flex s fs = true → lenM s ≤ kN → kN ≤ 1000 → (∀ k, pOne ver true k F 0 t = pOne ver true k fs i t) →
    WF ver flex s (gvM ver flex kN s fs i t)
  | .cons _ lo hi f rest, .cons k fr to nu tg df ok sub prest, i, h, hl, hl2, hone => by
    simp only [agM, Bool.and_eq_true, decide_eq_true_eq, beq_iff_eq, Bool.or_eq_true, Bool.not_eq_true'] at h
    obtain ⟨⟨⟨h1, h2⟩, h3⟩, h4⟩ := h
    refine ⟨fun hv => gv_wf ver flex f true k nu ok sub (h3.resolve_left (by rw [hv]; exact fun h => by cases h)) 0 (atT t i) (ht.at i), wf_gvM ht hx h4 hl hl2 fun j => ?_⟩
    rw [hone j]
    have hne : ¬ (tg = (j : Int) ∧ usualT k df (atT t i) = false) := by omega
    simp only [pOne, if_neg hne, List.nil_append]
  | .ktag off d f rest, fs, i, h, hl, hl2, hone => by
    refine wf_end ht h hl hl2 fun hf x hxm => ?_
    subst hf
    rw [← pOne_all h, List.mem_flatMap] at hxm
    obtain ⟨k, -, hk⟩ := hxm
    rw [← hone k] at hk
    exact hx rfl k x hk
  | .cons .., .nil, _, h, _, _, _ => by cases h
  | .leaf _, _, _, h, _, _, _ => by cases h
  | .list _ _ _, _, _, h, _, _, _ => by cases h
  | .opt _, _, _, h, _, _, _ => by cases h
  | .done, _, _, h, _, _, _ => by cases h
  | .tags _, _, _, h, _, _, _ => by cases h
theorem treeRdT {ver : Int} {flex : Bool} {s : Sch} {fs : PFs} (hok : okS ver flex s = true) (hag : agM ver flex s fs = true) (hkn : lenM s ≤ 1000) (t : Tree) (ht : TW t) (hx : flex = true → ∀ k, ∀ x ∈ pOne ver true k fs 0 t, x.2.length ≤ 4294967295) :
    WF ver flex s (gvM ver flex fs.known s fs 0 t) ∧ pPartT ver flex fs t = ap ver flex s (gvM ver flex fs.known s fs 0 t) ∧
    ∃ gv, rd ver flex s (pPartT ver flex fs t) = some (gv, []) ∧ ap ver flex s gv = pPartT ver flex fs t ∧ ∀ n, n < (pPartT ver flex fs t).length → rd ver flex s ((pPartT ver flex fs t).take n) = none := by
  have hk := known_agM hag
  have e : pPartT ver flex fs t = ap ver flex s (gvM ver flex fs.known s fs 0 t) := gvM_ap hag hk fun _ => rfl
  have hw : WF ver flex s (gvM ver flex fs.known s fs 0 t) := wf_gvM ht hx hag (by omega) (by omega) fun _ => rfl
  obtain ⟨v', -, h2, h3⟩ := rd_ap ver flex s _ hok hw
  rw [← e] at h2 h3
  refine ⟨hw, e, v', ?_, h2, fun n hn => cut_none (Mono.rd ver flex s) h3 hn⟩
  have := h3 []
  rwa [List.append_nil] at this
end Go.Proofs.YtmpilpgabelmiaaGreatDoor

/- No known list comes twice in what the reference writes, cut or not. No program in sight. -/
namespace Go.Proofs.YtmpilpgabelmiaaGreatDoor
set_option linter.unusedVariables false

theorem Mono.tag1 : Mono rdTag1 := Mono.uv.bind fun _ => Mono.uv.bind fun _ => (Mono.take _).bind fun _ => .pure _
theorem Mono.rdV (ver : Int) (flex : Bool) (lo : Int) (hi : Option Int) (f : Sch) : Mono (Proofs.YtmpilpgabelmiaaGreatDoor.rdV ver flex lo hi f) := by
  unfold Proofs.YtmpilpgabelmiaaGreatDoor.rdV
  exact .ite (Mono.rd ver flex f) (.pure _)
theorem dup_mono {L : List (Nat × Int × Sch)} {B x : List UInt8} (h : DupOK L (some (B ++ x))) : DupOK L (some B) := by
  intro j raw r k r1 c h1 h2 hc hl u hu
  exact h j raw (r ++ x) k (r1 ++ x) c (Mono.many Mono.tag1 j _ _ _ x h1) (Mono.uv _ _ _ x h2) hc hl u hu
theorem dup_none {L : List (Nat × Int × Sch)} : DupOK L none := fun j raw r k r1 c h1 => by cases h1
theorem kd_none {ver : Int} {flex : Bool} : ∀ f : Sch, KD ver flex f none
  | .cons _ _ _ _ rest => kd_none rest
  | .ktag _ _ _ _ => fun _ => dup_none
  | .leaf _ => trivial
  | .list _ _ _ => trivial
  | .opt _ => trivial
  | .done => trivial
  | .tags _ => trivial
theorem kd_mono {ver : Int} {flex : Bool} {x : List UInt8} : ∀ {f : Sch} {B : List UInt8}, KD ver flex f (some (B ++ x)) → KD ver flex f (some B)
  | .cons _ lo hi f rest, B, h => by
    simp only [KD, Option.bind_some] at h ⊢
    cases hv : rdV ver flex lo hi f B with
    | none => exact kd_none rest
    | some q =>
      rw [Mono.rdV ver flex lo hi f _ _ _ x hv] at h
      exact kd_mono (f := rest) h
  | .ktag off d f rest, B, h => by
    intro hf
    have h := h hf
    simp only [Option.bind_some] at h ⊢
    cases hv : rdUv B with
    | none => exact dup_none
    | some q =>
      rw [Mono.uv _ _ _ x hv] at h
      exact dup_mono h
  | .leaf _, _, _ => trivial
  | .list _ _ _, _, _ => trivial
  | .opt _, _, _ => trivial
  | .done, _, _ => trivial
  | .tags _, _, _ => trivial
theorem apTags_cat (l l' : List (Nat × List UInt8)) : apTags (l ++ l') = apTags l ++ apTags l' := by
  unfold apTags
  rw [List.flatMap_append]
theorem many_last {α : Type} {p : Pr α} {bs : List UInt8} {l : List α} {n : Nat} (h : rdMany p n bs = some (l, [])) (hp : p [] = none) : rdMany p (n + 1) bs = none := by
  have e := many_st p n (some bs)
  simp only [Option.bind_some] at e
  rw [e, h]
  simp only [Option.bind_some]
  rw [hp]
  rfl
theorem dup_tags {L : List (Nat × Int × Sch)} {l : List (Nat × List UInt8)} (hb : ∀ t ∈ l, t.1 ≤ 4294967295 ∧ t.2.length ≤ 4294967295) (hp : l.Pairwise fun a b => b.1 < L.length → a.1 ≠ b.1) : DupOK L (some (apTags l)) := by
  intro j raw r k r1 c h1 h2 hc hl u hu
  simp only [Option.bind_some] at h1
  have hk : k < L.length := (List.getElem?_eq_some_iff.1 hc).1
  rcases Nat.lt_or_ge j l.length with hj | hj
  · have x1 := exact_many_tags (l.take j) (fun t ht => hb t (List.mem_of_mem_take ht)) (apTags (l.drop j))
    rw [← apTags_cat, List.take_append_drop, List.length_take, Nat.min_eq_left (by omega), h1] at x1
    simp only [Option.some.injEq, Prod.mk.injEq] at x1
    obtain ⟨rfl, rfl⟩ := x1
    have hd : l.drop j = l[j] :: l.drop (j + 1) := List.drop_eq_getElem_cons hj
    have e : apTags (l.drop j) = uv l[j].1 ++ (uv l[j].2.length ++ l[j].2 ++ apTags (l.drop (j + 1))) := by
      rw [hd]
      unfold apTags
      rw [List.flatMap_cons]
      simp only [List.append_assoc]
    have h3 := Exact.uv (hb l[j] (List.getElem_mem hj)).1 (uv l[j].2.length ++ l[j].2 ++ apTags (l.drop (j + 1)))
    rw [← e, h2] at h3
    simp only [Option.some.injEq, Prod.mk.injEq] at h3
    rw [h3.1]
    rw [← List.take_append_drop j l, List.pairwise_append] at hp
    exact hp.2.2 u hu l[j] (by rw [hd]; exact List.mem_cons_self ..) (by rw [← h3.1]; exact hk)
  · have x1 := exact_many_tags l hb []
    rw [List.append_nil] at x1
    rcases Nat.lt_or_ge l.length j with hj2 | hj2
    · have h3 : (some (apTags l)).bind (rdMany rdTag1 j) = some (raw, r) := h1
      obtain ⟨r', h4⟩ := many_prefix h3 (show l.length + 1 ≤ j by omega)
      simp only [Option.bind_some] at h4
      rw [many_last x1 rfl] at h4
      cases h4
    · obtain rfl : j = l.length := by omega
      rw [x1] at h1
      simp only [Option.some.injEq, Prod.mk.injEq] at h1
      obtain ⟨rfl, rfl⟩ := h1
      cases h2
theorem ktL_pair {ver : Int} {flex : Bool} : ∀ (cs : List (Int × Sch)) (i : Nat) (vs : List GV), (ktL ver flex cs i vs).Pairwise (fun a b => a.1 < b.1) ∧ ∀ t ∈ ktL ver flex cs i vs, i ≤ t.1
  | [], _, _ => ⟨by simp [ktL], by simp [ktL]⟩
  | _ :: _, _, [] => ⟨by simp [ktL], by simp [ktL]⟩
  | c :: cs, i, v :: vs => by
    obtain ⟨h1, h2⟩ := ktL_pair (ver := ver) (flex := flex) cs (i + 1) vs
    simp only [ktL]
    split
    · exact ⟨by simpa using h1, fun t ht => Nat.le_of_succ_le (h2 t (by simpa using ht))⟩
    · simp only [List.cons_append, List.nil_append]
      refine ⟨List.pairwise_cons.2 ⟨fun t ht => h2 t ht, h1⟩, fun t ht => ?_⟩
      rcases List.mem_cons.1 ht with rfl | ht
      · exact Nat.le_refl _
      · exact Nat.le_of_succ_le (h2 t ht)
theorem chainO_len : ∀ s : Sch, (chainO s).length = (chainL s).length
  | .ktag _ _ _ rest => by simp only [chainO, chainL, List.length_cons, chainO_len rest]
  | .leaf _ => rfl
  | .list _ _ _ => rfl
  | .opt _ => rfl
  | .done => rfl
  | .tags _ => rfl
  | .cons _ _ _ _ _ => rfl
theorem kd_ap {ver : Int} {flex : Bool} : ∀ {s : Sch} {v : GV}, okS ver flex s = true → WF ver flex s v → KD ver flex s (some (ap ver flex s v))
  | .cons off lo hi f rest, v, hk, h => by
    simp only [okS, Bool.and_eq_true, Bool.or_eq_true, Bool.not_eq_true'] at hk
    cases v <;> simp only [WF] at h <;> try exact h.elim
    rename_i v vs
    have ih := kd_ap (s := rest) hk.2 h.2
    simp only [KD, Option.bind_some, ap]
    by_cases hv : hasV lo hi ver = true
    · obtain ⟨v', w1, e1, x1⟩ := rd_ap ver flex f v (hk.1.resolve_left (by rw [hv]; exact fun h => by cases h)) (h.1 hv)
      unfold rdV
      rw [if_pos hv, if_pos hv, x1]
      exact ih
    · unfold rdV
      rw [if_neg hv, if_neg hv]
      exact ih
  | .ktag off d f rest, v, hk, h => by
    intro hf
    subst hf
    have hc : isChain (.ktag off d f rest) = true ∧ (chainL rest).length < 1000 := by
      simp only [okS, Bool.and_eq_true, decide_eq_true_eq] at hk
      exact hk.2
    obtain ⟨vs, us, rfl, h1, h2, h3, h4⟩ := kval_of hc.1 h
    have hl := WFL.length h1
    have e : ap ver true (.ktag off d f rest) (kval vs us) = kOut (ktL ver true (chainL (.ktag off d f rest)) 0 vs ++ us) := by
      rw [← kt_kval hc.1 hl]
      cases vs with
      | nil => exact h1.elim
      | cons x vs => rfl
    obtain ⟨b1, -⟩ := ktL_bounds (i := 0) h1 (by simp only [chainL, List.length_cons]; omega)
    have hu := Exact.uv (n := (ktL ver true (chainL (.ktag off d f rest)) 0 vs ++ us).length) (by simp only [List.length_append]; exact h4) (apTags (ktL ver true (chainL (.ktag off d f rest)) 0 vs ++ us))
    rw [e]
    unfold kOut
    simp only [Option.bind_some]
    rw [hu]
    refine dup_tags (fun t ht => ?_) ?_
    · rcases List.mem_append.1 ht with ht | ht
      · exact b1 t ht
      · exact h2.2.2.1 t ht
    · rw [chainO_len, List.pairwise_append]
      refine ⟨((ktL_pair (ver := ver) (flex := true) (chainL (.ktag off d f rest)) 0 vs).1).imp fun h _ => by omega, ?_, fun a _ b hb hlt => ?_⟩
      · refine List.Pairwise.imp_of_mem (R := fun _ _ => True) (fun {a b} _ hb _ hlt => ?_) (List.pairwise_of_forall fun _ _ => trivial)
        have := h3 b hb
        omega
      · have := h3 b hb
        omega
  | .leaf _, _, _, _ => trivial
  | .list _ _ _, _, _, _ => trivial
  | .opt _, _, _, _ => trivial
  | .done, _, _, _ => trivial
  | .tags _, _, _, _ => trivial
/-- What the reference writes of a message, cut or not. -/
theorem kdTree {ver : Int} {flex : Bool} {s : Sch} {fs : PFs} (hok : okS ver flex s = true) (hag : agM ver flex s fs = true) (hkn : lenM s ≤ 1000) (t : Tree) (ht : TW t) (hx : flex = true → ∀ k, ∀ x ∈ pOne ver true k fs 0 t, x.2.length ≤ 4294967295) (n : Nat) :
    KD ver flex s (some ((pPartT ver flex fs t).take n)) := by
  obtain ⟨hw, e, -⟩ := treeRdT hok hag hkn t ht hx
  have h := kd_ap hok hw
  rw [← e, ← List.take_append_drop n (pPartT ver flex fs t)] at h
  exact kd_mono h
end Go.Proofs.YtmpilpgabelmiaaGreatDoor

/- How long are known tags? By what the tree holds; by what is written. No program in sight. -/
namespace Go.Proofs.YtmpilpgabelmiaaGreatDoor
set_option linter.unusedVariables false

theorem mem_flat_le {α β : Type} {f : α → List β} : ∀ {l : List α} {x : α}, x ∈ l → (f x).length ≤ (l.flatMap f).length
  | y :: l, x, h => by
    simp only [List.flatMap_cons, List.length_append]
    rcases List.mem_cons.1 h with rfl | h
    · omega
    · have := mem_flat_le (f := f) h
      omega
theorem pOne_known {ver : Int} {flex : Bool} {k : Nat} {t : Tree} : ∀ {fs : PFs} {i : Nat} {x : Nat × List UInt8}, x ∈ pOne ver flex k fs i t → k < fs.known
  | .nil, i, x, hx => by cases hx
  | .cons kk fr to nu tg df ok sub rest, i, x, hx => by
    simp only [pOne, List.mem_append] at hx
    simp only [PFs.known]
    rcases hx with hx | hx
    · split at hx
      · rename_i hc
        have := hc.1
        rw [if_pos (by omega)]
        omega
      · cases hx
    · have := pOne_known hx
      omega
/-- A known tag's octets are no longer than what is written in all. -/
theorem pOne_in {ver : Int} {k : Nat} {fs : PFs} {t : Tree} {x : Nat × List UInt8} (hx : x ∈ pOne ver true k fs 0 t) : x.2.length ≤ (pPartT ver true fs t).length := by
  have h1 := pOne_known hx
  have h2 : x ∈ pKn ver true fs fs.known t := List.mem_flatMap.2 ⟨k, List.mem_range.2 h1, hx⟩
  have h3 := mem_flat_le (f := kTag) h2
  simp only [kTag, List.length_append] at h3
  simp only [pPartT, pTailT, if_true, List.length_append]
  omega
theorem pKn_in {ver : Int} {fs : PFs} {t : Tree} {n : Nat} {x : Nat × List UInt8} (hx : x ∈ pKn ver true fs n t) : x.2.length ≤ (pPartT ver true fs t).length := by
  obtain ⟨k, -, hk⟩ := List.mem_flatMap.1 hx
  exact pOne_in hk
theorem pField_wt (ver : Int) (flex : Bool) (k nu ok : Int) (sub : PFs) (t : Tree) : (pField ver flex k nu ok (pPart ver flex sub) t).length ≤ (cz sub + 68) * t.wt := by
  have hs : ∀ t', (pPart ver flex sub t').length ≤ (cz sub + 31) * t'.wt := fun t' => pPart_wt ver flex sub t'
  have ew := wt_eq t
  have hsp : (cz sub + 68) * t.wt = (cz sub + 57) * t.wt + 11 * t.wt := by rw [← Nat.add_mul]
  have hsq : (cz sub + 57) * t.wt = (cz sub + 31) * t.wt + 26 * t.wt := by rw [← Nat.add_mul]
  unfold pField
  split
  · rw [List.length_append]
    have h1 := counted_len flex (pNull nu ver t) (pThings (pNull nu ver t) t).length 4
    have h2 : ((pThings (pNull nu ver t) t).flatMap (pVal flex ok (pPart ver flex sub) false)).length ≤ (cz sub + 31 + 26) * wts (pThings (pNull nu ver t) t) :=
      flatMap_wt fun x _ => pVal_wt flex ok _ false x _ (hs x)
    have h3 : wts (pThings (pNull nu ver t) t) ≤ wts t.l := by
      unfold pThings
      split
      · simp [wts]
      · exact wts_take _ _
    have h4 : (cz sub + 31 + 26) * wts (pThings (pNull nu ver t) t) ≤ (cz sub + 57) * t.wt := Nat.mul_le_mul_left _ (by omega)
    omega
  · split
    · have h1 := hs t
      split
      · have : (fixed (-1) 1).length ≤ 8 := fixed_len _ _
        omega
      · have h2 : (fixed 1 1).length = 1 := rfl
        rw [List.length_append, h2]
        omega
    · have h1 := pVal_wt flex k (pPart ver flex sub) (pNull nu ver t) t _ (hs _)
      have h2 : (cz sub + 31 + 26) * t.wt = (cz sub + 57) * t.wt := rfl
      omega
theorem pOne_wt {ver : Int} {flex : Bool} {k : Nat} {t : Tree} : ∀ {fs : PFs} {i : Nat}, ((pOne ver flex k fs i t).flatMap kTag).length ≤ (cz fs + 20 * fs.len) * t.wt
  | .nil, i => Nat.zero_le _
  | .cons kk fr to nu tg df ok sub rest, i => by
    have h1 := pOne_wt (ver := ver) (flex := flex) (k := k) (t := t) (fs := rest) (i := i + 1)
    have h2 : (cz sub + 68) * (atT t i).wt ≤ (cz sub + 68) * t.wt := Nat.mul_le_mul_left _ (wt_at t i)
    have h3 := pField_wt ver flex kk nu ok sub (atT t i)
    have ew := wt_eq t
    have e : (cz (.cons kk fr to nu tg df ok sub rest) + 20 * (PFs.cons kk fr to nu tg df ok sub rest).len) * t.wt = (cz sub + 68) * t.wt + 20 * t.wt + (cz rest + 20 * rest.len) * t.wt := by
      rw [← Nat.add_mul, ← Nat.add_mul]
      congr 1
      simp only [cz, PFs.len]
      omega
    rw [e]
    simp only [pOne, List.flatMap_append, List.length_append]
    refine Nat.add_le_add ?_ h1
    split
    · simp only [List.flatMap_cons, List.flatMap_nil, List.append_nil, kTag, List.length_append]
      have := uv_len10 k
      have := uv_len10 (pField ver flex kk nu ok (pPart ver flex sub) (atT t i)).length
      omega
    · simp
theorem pKn_wt {ver : Int} {flex : Bool} {fs : PFs} {t : Tree} : ∀ n, ((pKn ver flex fs n t).flatMap kTag).length ≤ n * ((cz fs + 20 * fs.len) * t.wt)
  | 0 => by simp [pKn]
  | n + 1 => by
    have h1 := pKn_wt (ver := ver) (flex := flex) (fs := fs) (t := t) n
    have h2 := pOne_wt (ver := ver) (flex := flex) (k := n) (t := t) (fs := fs) (i := 0)
    rw [pKn_succ, List.flatMap_append, List.length_append, Nat.succ_mul]
    omega
theorem wtU_filter (p : Nat × List UInt8 → Bool) : ∀ l : List (Nat × List UInt8), wtU (l.filter p) ≤ wtU l
  | [] => Nat.le_refl _
  | x :: l => by
    have := wtU_filter p l
    simp only [List.filter_cons]
    split <;> simp only [wtU] <;> omega
theorem pTailT_wt (ver : Int) (flex : Bool) (fs : PFs) (t : Tree) : (pTailT ver flex fs t).length ≤ (31 + fs.known * (cz fs + 20 * fs.len)) * t.wt := by
  have ew := wt_eq t
  cases flex
  · simp [pTailT]
  · have h1 := uv_len10 ((pKn ver true fs fs.known t).length + (unkN fs.known t.u).length)
    have h2 := pKn_wt (ver := ver) (flex := true) (fs := fs) (t := t) fs.known
    have h3 := fold_wt ((t.u.take 32767).filter fun t => decide (fs.known ≤ t.1)) []
    have h4 := wtU_filter (fun t => decide (fs.known ≤ t.1)) (t.u.take 32767)
    have h5 := wtU_take 32767 t.u
    simp only [List.flatMap_nil, List.length_nil] at h3
    have h6 : ((unkN fs.known t.u).flatMap pTag).length ≤ 0 + 21 * wtU ((t.u.take 32767).filter fun t => decide (fs.known ≤ t.1)) := h3
    rw [← Nat.mul_assoc] at h2
    rw [Nat.add_mul]
    simp only [pTailT, if_true, List.length_append]
    omega
theorem pPartT_wt (ver : Int) (flex : Bool) (fs : PFs) (t : Tree) : (pPartT ver flex fs t).length ≤ (cz fs + (31 + fs.known * (cz fs + 20 * fs.len))) * t.wt := by
  have h1 := pFields_wt ver flex fs 0 t
  have h2 := pTailT_wt ver flex fs t
  unfold pPartT
  rw [List.length_append, Nat.add_mul]
  omega
end Go.Proofs.YtmpilpgabelmiaaGreatDoor
