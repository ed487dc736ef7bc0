/- Shared texts of these proofs, laid together by merge.py: Gw, Gx, Ksf, Ksg. -/
import Derived.Test.YtmpilpgabelmiaaGreatDoorMh
import Derived.Test.YtmpilpgabelmiaaGreatDoorMk
import Derived.Test.YtmpilpgabelmiaaGreatDoorMi
set_option linter.unusedVariables false
/- What the reference writes of a message with tags is what 'ap' writes of a value that can be told. No program in sight. -/
namespace Go.Proofs.YtmpilpgabelmiaaGreatDoor
set_option linter.unusedVariables false

/-- What a message's tree says, as a value; kN: how many tags are known. -/
def gvM (ver : Int) (flex : Bool) (kN : Nat) : Sch → PFs → Nat → Tree → GV
  | .cons _ _ _ f rest, .cons _ _ _ nu _ _ _ sub prest, i, t => .cons (gvS ver flex f nu sub 0 (atT t i)) (gvM ver flex kN rest prest (i + 1) t)
  | .ktag _ d f rest, .cons _ _ _ nu _ _ _ sub prest, i, t => .cons (if flex then gvS ver flex f nu sub 0 (atT t i) else dfl f d) (gvM ver flex kN rest prest (i + 1) t)
  | .tags _, _, _, t => .tags (if flex then (unkN kN t.u).map fun u => (u.1, whole u.2) else [])
  | _, _, _, _ => .unit
/-- Do the reference and the code agree on what is as by default? -/
def agU (k nu df : Int) : Sch → Int → Bool
  | .leaf .i16, d => decide (k = 2) && decide (df = d) && decide (-32768 ≤ d) && decide (d ≤ 32767)
  | .leaf .i64, d => decide (k = 4) && decide (df = d) && decide (-9223372036854775808 ≤ d) && decide (d ≤ 9223372036854775807)
  | .list none _ _, _ => decide (k = 11) && decide (nu < 0)
  | _, _ => false
/-- Do they agree on the known tags, from number m on? -/
def agT (ver : Int) (flex : Bool) : Sch → PFs → Nat → Bool
  | .ktag _ d f rest, .cons k _ _ nu tg df ok sub prest, m => decide (tg = (m : Int)) && agU k nu df f d && agree ver flex f true k nu ok sub && agT ver flex rest prest (m + 1)
  | .tags _, .nil, _ => true
  | _, _, _ => false
/-- Do they agree on a message? -/
def agM (ver : Int) (flex : Bool) : Sch → PFs → Bool
  | .cons _ lo hi f rest, .cons k fr to nu tg _ ok sub prest => decide (tg < 0) && (pHas fr to ver == hasV lo hi ver) && (!hasV lo hi ver || agree ver flex f true k nu ok sub) && agM ver flex rest prest
  | .ktag off d f rest, fs => agT ver flex (.ktag off d f rest) fs 0
  | _, _ => false
/-- The known tags of the end of a list of fields. -/
def endT (ver : Int) : Sch → PFs → Nat → Nat → Tree → List (Nat × List UInt8)
  | .ktag _ d f rest, .cons k _ _ nu _ df ok sub prest, m, i, t => (if usualT k df (atT t i) = false then [(m, pField ver true k nu ok (pPart ver true sub) (atT t i))] else []) ++ endT ver rest prest (m + 1) (i + 1) t
  | _, _, _, _, _ => []

theorem be16_inj {a b : Int} (ha : -32768 ≤ a ∧ a < 32768) (hb : -32768 ≤ b ∧ b < 32768) (h : be16 a = be16 b) : a = b := by
  have h1 := beNat16 a
  have h2 := beNat16 b
  rw [h] at h1
  omega
theorem be64_inj {a b : Int} (ha : -9223372036854775808 ≤ a ∧ a < 9223372036854775808) (hb : -9223372036854775808 ≤ b ∧ b < 9223372036854775808) (h : be64 a = be64 b) : a = b := by
  have h1 := beNat64 a
  have h2 := beNat64 b
  rw [h] at h1
  omega
/-- As by default: the same on both sides. -/
theorem ag_usual {ver : Int} {k nu df ok d : Int} {f : Sch} {sub : PFs} (h : agU k nu df f d = true) (t : Tree) : usual f d (gvS ver true f nu sub 0 t) = usualT k df t := by
  cases f with
  | leaf lf =>
    cases lf <;> simp only [agU, Bool.and_eq_true, decide_eq_true_eq] at h <;> try exact absurd h (by decide)
    · obtain ⟨⟨⟨rfl, rfl⟩, h1⟩, h2⟩ := h
      have hs := sg_bounds (m := 32768) (by omega) t.n
      have e : (fixed t.n (pWidth 2) = fixed df (pWidth 2)) ↔ sg 32768 t.n = df := by
        simp only [pWidth, fixed]
        constructor
        · intro h
          simp at h
          exact be16_inj hs ⟨h1, by omega⟩ (by rw [be_sg16]; exact h)
        · intro h
          rw [← h]
          simp [be_sg16]
      simp only [usual, gvS, gvLeaf, usualT]
      rw [if_neg (by omega)]
      by_cases hd : sg 32768 t.n = df
      · rw [decide_eq_true (e.2 hd), hd]; simp
      · rw [decide_eq_false (fun h => hd (e.1 h))]
        simpa using hd
    · obtain ⟨⟨⟨rfl, rfl⟩, h1⟩, h2⟩ := h
      have hs := sg_bounds (m := 9223372036854775808) (by omega) t.n
      have e : (fixed t.n (pWidth 4) = fixed df (pWidth 4)) ↔ sg 9223372036854775808 t.n = df := by
        simp only [pWidth, fixed]
        constructor
        · intro h
          simp at h
          exact be64_inj hs ⟨h1, by omega⟩ (by rw [be_sg64]; exact h)
        · intro h
          rw [← h]
          simp [be_sg64]
      simp only [usual, gvS, gvLeaf, usualT]
      rw [if_neg (by omega)]
      by_cases hd : sg 9223372036854775808 t.n = df
      · rw [decide_eq_true (e.2 hd), hd]; simp
      · rw [decide_eq_false (fun h => hd (e.1 h))]
        simpa using hd
  | list nul z e =>
    cases nul <;> simp only [agU, Bool.and_eq_true, decide_eq_true_eq] at h <;> try exact absurd h (by decide)
    obtain ⟨rfl, h1⟩ := h
    have hp : pNull nu ver t = false := pNull_nulV (by unfold nulV; simp; omega)
    simp only [gvS, hp, Bool.false_eq_true, if_false, usual, usualT, if_true]
    cases t.l <;> simp
  | _ => simp [agU] at h
theorem ag_knd {k nu df d : Int} {f : Sch} (h : agU k nu df f d = true) : knd f d = true := by
  cases f with
  | leaf lf =>
    cases lf <;> simp only [agU, Bool.and_eq_true, decide_eq_true_eq] at h <;> try exact absurd h (by decide)
    · simp [knd, h.1.2, h.2]
    · simp [knd, h.1.2, h.2]
  | list nul z e => cases nul <;> simp [agU] at h; rfl
  | _ => simp [agU] at h
theorem pFields_tagged {ver : Int} {flex : Bool} : ∀ {s : Sch} {fs : PFs} {m i : Nat} {t : Tree}, agT ver flex s fs m = true → pFields ver flex fs i t = []
  | .ktag _ d f rest, .cons k fr to nu tg df ok sub prest, m, i, t, h => by
    simp only [agT, Bool.and_eq_true, decide_eq_true_eq] at h
    have htg : ¬ tg < 0 := by omega
    simp only [pFields, decide_eq_false htg, Bool.false_and, Bool.false_eq_true, if_false, List.nil_append]
    exact pFields_tagged h.2
  | .tags _, .nil, _, _, _, _ => rfl
  | .tags _, .cons .., _, _, _, h => by cases h
  | .ktag .., .nil, _, _, _, h => by cases h
  | .leaf _, _, _, _, _, h => by cases h
  | .list _ _ _, _, _, _, _, h => by cases h
  | .opt _, _, _, _, _, h => by cases h
  | .done, _, _, _, _, h => by cases h
  | .cons .., _, _, _, _, h => by cases h
theorem pOne_below {ver : Int} {flex flex' : Bool} {k : Nat} : ∀ {s : Sch} {fs : PFs} {m i : Nat} {t : Tree}, agT ver flex s fs m = true → k < m → pOne ver flex' k fs i t = []
  | .ktag _ d f rest, .cons kk fr to nu tg df ok sub prest, m, i, t, h, hk => by
    simp only [agT, Bool.and_eq_true, decide_eq_true_eq] at h
    have htg : ¬ (tg = (k : Int) ∧ usualT kk df (atT t i) = false) := by omega
    simp only [pOne, if_neg htg, List.nil_append]
    exact pOne_below h.2 (by omega)
  | .tags _, .nil, _, _, _, _, _ => rfl
  | .tags _, .cons .., _, _, _, h, _ => by cases h
  | .ktag .., .nil, _, _, _, h, _ => by cases h
  | .leaf _, _, _, _, _, h, _ => by cases h
  | .list _ _ _, _, _, _, _, h, _ => by cases h
  | .opt _, _, _, _, _, h, _ => by cases h
  | .done, _, _, _, _, h, _ => by cases h
  | .cons .., _, _, _, _, h, _ => by cases h
def lenK : Sch → Nat
  | .ktag _ _ _ rest => lenK rest + 1
  | _ => 0
theorem lenK_chain : ∀ s : Sch, isChain s = true → lenK s = (chainL s).length
  | .ktag _ _ _ rest, h => by simp only [lenK, chainL, List.length_cons, lenK_chain rest h]
  | .tags _, _ => rfl
  | .leaf _, h => by cases h
  | .list _ _ _, h => by cases h
  | .opt _, h => by cases h
  | .done, h => by cases h
  | .cons .., h => by cases h
theorem agT_chain {ver : Int} {flex : Bool} : ∀ {s : Sch} {fs : PFs} {m : Nat}, agT ver flex s fs m = true → isChain s = true
  | .ktag _ d f rest, .cons .., m, h => by
    simp only [agT, Bool.and_eq_true, decide_eq_true_eq] at h
    exact agT_chain (s := rest) h.2
  | .tags _, .nil, _, _ => rfl
  | .tags _, .cons .., _, h => by cases h
  | .ktag .., .nil, _, h => by cases h
  | .leaf _, _, _, h => by cases h
  | .list _ _ _, _, _, h => by cases h
  | .opt _, _, _, h => by cases h
  | .done, _, _, h => by cases h
  | .cons .., _, _, h => by cases h
/-- The tags, asked for one by one, come in the fields' order. -/
theorem pOne_all {ver : Int} {flex : Bool} : ∀ {s : Sch} {fs : PFs} {m i : Nat} {t : Tree}, agT ver flex s fs m = true → (List.range' m (lenK s)).flatMap (fun k => pOne ver true k fs i t) = endT ver s fs m i t
  | .ktag off d f rest, .cons kk fr to nu tg df ok sub prest, m, i, t, h => by
    have h0 := h
    simp only [agT, Bool.and_eq_true, decide_eq_true_eq] at h
    obtain ⟨⟨⟨rfl, h2⟩, h3⟩, h4⟩ := h
    have ih := pOne_all (i := i + 1) (t := t) h4
    simp only [lenK, List.range'_succ, List.flatMap_cons]
    have e1 : pOne ver true m (.cons kk fr to nu (m : Int) df ok sub prest) i t = (if usualT kk df (atT t i) = false then [(m, pField ver true kk nu ok (pPart ver true sub) (atT t i))] else []) := by
      simp only [pOne, true_and]
      rw [pOne_below h4 (by omega), List.append_nil]
    rw [e1]
    simp only [endT]
    congr 1
    rw [← ih]
    refine flatMap_same fun k hk => ?_
    have hk' := (List.mem_range'_1.1 hk).1
    have hne : ¬ (((m : Nat) : Int) = (k : Int) ∧ usualT kk df (atT t i) = false) := by omega
    simp only [pOne, if_neg hne, List.nil_append]
  | .tags _, .nil, _, _, _, _ => rfl
  | .tags _, .cons .., _, _, _, h => by cases h
  | .ktag .., .nil, _, _, _, h => by cases h
  | .leaf _, _, _, _, _, h => by cases h
  | .list _ _ _, _, _, _, _, h => by cases h
  | .opt _, _, _, _, _, h => by cases h
  | .done, _, _, _, _, h => by cases h
  | .cons .., _, _, _, _, h => by cases h
theorem known_agT {ver : Int} {flex : Bool} : ∀ {s : Sch} {fs : PFs} {m : Nat}, agT ver flex s fs m = true → fs.known = if lenK s = 0 then 0 else m + lenK s
  | .ktag off d f rest, .cons kk fr to nu tg df ok sub prest, m, h => by
    simp only [agT, Bool.and_eq_true, decide_eq_true_eq] at h
    obtain ⟨⟨⟨rfl, h2⟩, h3⟩, h4⟩ := h
    have ih := known_agT h4
    simp only [PFs.known, ih, lenK]
    rw [if_pos (by omega), Int.toNat_natCast]
    by_cases hz : lenK rest = 0
    · simp [hz]
    · simp [hz]
      omega
  | .tags _, .nil, _, _ => rfl
  | .tags _, .cons .., _, h => by cases h
  | .ktag .., .nil, _, h => by cases h
  | .leaf _, _, _, h => by cases h
  | .list _ _ _, _, _, h => by cases h
  | .opt _, _, _, h => by cases h
  | .done, _, _, h => by cases h
  | .cons .., _, _, h => by cases h
/-- A known tag's field, on both sides. -/
theorem ag_field {ver : Int} {k nu ok : Int} {f : Sch} {sub : PFs} (h : agree ver true f true k nu ok sub = true) (t : Tree) : pField ver true k nu ok (pPart ver true sub) t = ap ver true f (gvS ver true f nu sub 0 t) :=
  (gv_ap ver true f true k nu ok sub h).1 rfl t
theorem kt_end {ver : Int} {kN : Nat} : ∀ {s : Sch} {fs : PFs} {m i : Nat} {t : Tree}, agT ver true s fs m = true →
    kt ver true s m (gvM ver true kN s fs i t) = endT ver s fs m i t ++ (unkN kN t.u).map fun u => (u.1, whole u.2)
  | .ktag off d f rest, .cons kk fr to nu tg df ok sub prest, m, i, t, h => by
    simp only [agT, Bool.and_eq_true, decide_eq_true_eq] at h
    obtain ⟨⟨⟨rfl, h2⟩, h3⟩, h4⟩ := h
    simp only [gvM, if_true, kt, endT, kt_end h4, ag_usual (ver := ver) (ok := ok) (sub := sub) h2 (atT t i), ag_field h3, List.append_assoc]
    congr 1
    cases usualT kk df (atT t i) <;> simp
  | .tags _, .nil, _, _, _, _ => by simp [kt, gvM, endT]
  | .tags _, .cons .., _, _, _, h => by cases h
  | .ktag .., .nil, _, _, _, h => by cases h
  | .leaf _, _, _, _, _, h => by cases h
  | .list _ _ _, _, _, _, _, h => by cases h
  | .opt _, _, _, _, _, h => by cases h
  | .done, _, _, _, _, h => by cases h
  | .cons .., _, _, _, _, h => by cases h
theorem kTag_ap (l : List (Nat × List UInt8)) : l.flatMap kTag = apTags l := rfl
theorem pTag_ap (l : List (Nat × List UInt8)) : l.flatMap pTag = apTags (l.map fun u => (u.1, whole u.2)) := by
  unfold apTags
  rw [List.flatMap_map]
  rfl
/-- What is written of a message's end. -/
theorem tail_ktag {ver : Int} {flex : Bool} {off : Nat} {d : Int} {f rest : Sch} {fs gs : PFs} {i : Nat} {t : Tree} (h : agT ver flex (.ktag off d f rest) gs 0 = true) (hk : fs.known = lenK (.ktag off d f rest)) (hone : ∀ k, pOne ver true k fs 0 t = pOne ver true k gs i t) :
    pTailT ver flex fs t = ap ver flex (.ktag off d f rest) (gvM ver flex fs.known (.ktag off d f rest) gs i t) := by
  cases gs with
  | nil => cases h
  | cons kk fr to nu tg df ok sub prest =>
    cases flex
    · simp [pTailT, gvM, ap]
    · have hkt := kt_end (kN := fs.known) (i := i) (t := t) h
      have e0 : pKn ver true fs fs.known t = endT ver (.ktag off d f rest) (.cons kk fr to nu tg df ok sub prest) 0 i t := by
        unfold pKn
        rw [hk, List.range_eq_range', flatMap_same fun k _ => hone k]
        exact pOne_all h
      have e1 : ap ver true (.ktag off d f rest) (gvM ver true fs.known (.ktag off d f rest) (.cons kk fr to nu tg df ok sub prest) i t) = kOut (kt ver true (.ktag off d f rest) 0 (gvM ver true fs.known (.ktag off d f rest) (.cons kk fr to nu tg df ok sub prest) i t)) := by
        simp only [gvM, if_true, ap, kt]
      rw [e1, hkt]
      unfold pTailT kOut
      simp only [if_true, e0, kTag_ap, pTag_ap]
      rw [List.length_append, List.length_map]
      unfold apTags
      rw [List.flatMap_append, List.append_assoc]
end Go.Proofs.YtmpilpgabelmiaaGreatDoor

/- A message with tags: what the reference writes is read, written the same; what is cut of it is not read. No program in sight. -/
namespace Go.Proofs.YtmpilpgabelmiaaGreatDoor
set_option linter.unusedVariables false

def lenM : Sch → Nat
  | .cons _ _ _ _ rest => lenM rest
  | .ktag off d f rest => lenK (.ktag off d f rest)
  | _ => 0
theorem known_agM {ver : Int} {flex : Bool} : ∀ {s : Sch} {fs : PFs}, agM ver flex s fs = true → fs.known = lenM s
  | .cons _ lo hi f rest, .cons k fr to nu tg df ok sub prest, h => by
    simp only [agM, Bool.and_eq_true, decide_eq_true_eq] at h
    have ih := known_agM h.2
    have h1 := h.1.1.1
    simp only [PFs.known, lenM, ih]
    rw [if_neg (by omega)]
    omega
  | .ktag off d f rest, fs, h => by
    have := known_agT (s := .ktag off d f rest) (m := 0) h
    rw [this]
    simp [lenM, lenK]
  | .cons .., .nil, h => by cases h
  | .leaf _, _, h => by cases h
  | .list _ _ _, _, h => by cases h
  | .opt _, _, h => by cases h
  | .done, _, h => by cases h
  | .tags _, _, h => by cases h
theorem gvM_ap {ver : Int} {flex : Bool} {F : PFs} {t : Tree} : ∀ {s : Sch} {fs : PFs} {i : Nat}, agM ver flex s fs = true → F.known = lenM s → (∀ k, pOne ver true k F 0 t = pOne ver true k fs i t) →
    pFields ver flex fs i t ++ pTailT ver flex F t = ap ver flex s (gvM ver flex F.known s fs i t)
  | .cons _ lo hi f rest, .cons k fr to nu tg df ok sub prest, i, h, hk, hone => by
    simp only [agM, Bool.and_eq_true, decide_eq_true_eq, beq_iff_eq, Bool.or_eq_true, Bool.not_eq_true'] at h
    obtain ⟨⟨⟨h1, h2⟩, h3⟩, h4⟩ := h
    have r2 := gvM_ap (i := i + 1) h4 hk (fun j => by
      rw [hone j]
      have hne : ¬ (tg = (j : Int) ∧ usualT k df (atT t i) = false) := by omega
      simp only [pOne, if_neg hne, List.nil_append])
    simp only [pFields, gvM, ap, decide_eq_true h1, Bool.true_and, h2]
    rw [List.append_assoc, r2]
    congr 1
    by_cases hv : hasV lo hi ver = true
    · rw [if_pos hv, if_pos hv]
      have h3' := h3.resolve_left (by rw [hv]; exact fun h => by cases h)
      exact (gv_ap ver flex f true k nu ok sub h3').1 rfl (atT t i)
    · rw [if_neg hv, if_neg hv]
  | .ktag off d f rest, fs, i, h, hk, hone => by
    rw [pFields_tagged (s := .ktag off d f rest) (m := 0) h, List.nil_append]
    exact tail_ktag h hk hone
  | .cons .., .nil, _, h, _, _ => by cases h
  | .leaf _, _, _, h, _, _ => by cases h
  | .list _ _ _, _, _, h, _, _ => by cases h
  | .opt _, _, _, h, _, _ => by cases h
  | .done, _, _, h, _, _ => by cases h
  | .tags _, _, _, h, _, _ => by cases h
/-- Only numbers among the known tags. -/
def numsT : Sch → Bool
  | .ktag _ _ (.leaf _) rest => numsT rest
  | .tags _ => true
  | _ => false
theorem end_nums {ver : Int} : ∀ {s : Sch} {fs : PFs} {m i : Nat} {t : Tree}, numsT s = true → agT ver true s fs m = true → ∀ x ∈ endT ver s fs m i t, x.2.length ≤ 4294967295
  | .ktag off d (.leaf lf) rest, .cons k fr to nu tg df ok sub prest, m, i, t, hn, h, x, hx => by
    simp only [agT, Bool.and_eq_true, decide_eq_true_eq] at h
    simp only [endT, List.mem_append] at hx
    rcases hx with hx | hx
    · split at hx
      · rw [List.mem_singleton] at hx
        subst hx
        rw [ag_field h.1.2]
        have hu := h.1.1.2
        cases lf <;> simp only [agU, Bool.and_eq_true, decide_eq_true_eq] at hu <;> try exact absurd hu (by decide)
        · simp [ap, gvS, gvLeaf, apLeaf, be16]
        · simp [ap, gvS, gvLeaf, apLeaf, be64]
      · cases hx
    · exact end_nums (s := rest) hn h.2 x hx
  | .tags _, fs, m, i, t, _, _, x, hx => by simp [endT] at hx
  | .ktag _ _ (.list _ _ _) _, _, _, _, _, hn, _, _, _ => by cases hn
  | .ktag _ _ (.opt _) _, _, _, _, _, hn, _, _, _ => by cases hn
  | .ktag _ _ .done _, _, _, _, _, hn, _, _, _ => by cases hn
  | .ktag _ _ (.tags _) _, _, _, _, _, hn, _, _, _ => by cases hn
  | .ktag _ _ (.cons ..) _, _, _, _, _, hn, _, _, _ => by cases hn
  | .ktag _ _ (.ktag ..) _, _, _, _, _, hn, _, _, _ => by cases hn
  | .ktag _ _ (.leaf _) _, .nil, _, _, _, _, h, _, _ => by cases h
  | .leaf _, _, _, _, _, hn, _, _, _ => by cases hn
  | .list _ _ _, _, _, _, _, hn, _, _, _ => by cases hn
  | .opt _, _, _, _, _, hn, _, _, _ => by cases hn
  | .done, _, _, _, _, hn, _, _, _ => by cases hn
  | .cons .., _, _, _, _, hn, _, _, _ => by cases hn
theorem kt_le (ver : Int) (flex : Bool) : ∀ (s : Sch) (i : Nat) (v : GV), (kt ver flex s i v).length ≤ lenK s + (kus s v).length
  | .ktag _ d f rest, i, .cons v vs => by
    have := kt_le ver flex rest (i + 1) vs
    simp only [kt, kus, lenK, List.length_append]
    split <;> simp <;> omega
  | .tags _, _, v => by cases v <;> simp [kt, kus]
  | .ktag _ _ _ _, _, .int _ => by simp [kt]
  | .ktag _ _ _ _, _, .bool _ => by simp [kt]
  | .ktag _ _ _ _, _, .bytes _ => by simp [kt]
  | .ktag _ _ _ _, _, .null => by simp [kt]
  | .ktag _ _ _ _, _, .list _ => by simp [kt]
  | .ktag _ _ _ _, _, .tags _ => by simp [kt]
  | .ktag _ _ _ _, _, .unit => by simp [kt]
  | .leaf _, _, _ => by simp [kt]
  | .list _ _ _, _, _ => by simp [kt]
  | .opt _, _, _ => by simp [kt]
  | .done, _, _ => by simp [kt]
  | .cons .., _, _ => by simp [kt]
/-- What is as by default is short. -/
theorem usual_short {ver : Int} {flex : Bool} {f : Sch} {d : Int} {v : GV} (hk : knd f d = true) (hu : usual f d v = true) (hv : WF ver flex f v) : (ap ver flex f v).length ≤ 100 := by
  cases f with
  | leaf lf =>
    cases lf <;> simp [knd] at hk <;> cases v <;> simp [usual] at hu
    · simp [ap, apLeaf, be16]
    · simp [ap, apLeaf, be64]
    · subst hu; simp [ap, apLeaf]
    · simp only [ap, apLeaf, nulS]
      cases flex
      · simp [be16]
      · have := uv_len10 0
        simp only [if_true]
        omega
  | list nul z e =>
    cases v <;> simp [usual] at hu
    subst hu
    simp only [ap, lenB, List.length_nil, List.flatMap_nil, List.append_nil]
    cases flex
    · simp [be32]
    · have := uv_len10 (0 + 1)
      simp only [if_true]
      omega
  | _ => simp [knd] at hk
theorem unkN_ok {kN : Nat} {u : List (Nat × List UInt8)} (h : ∀ kv ∈ u, kv.1 ≤ 4294967295) : rising (unkN kN u) ∧ (unkN kN u).length ≤ 32767 ∧ (∀ t ∈ unkN kN u, t.1 ≤ 4294967295) ∧ ∀ t ∈ unkN kN u, kN ≤ t.1 := by
  have hsub : ∀ t ∈ (u.take 32767).filter (fun t => decide (kN ≤ t.1)), t.1 ≤ 4294967295 ∧ kN ≤ t.1 := fun t ht => by
    obtain ⟨h1, h2⟩ := List.mem_filter.1 ht
    exact ⟨h t (List.mem_of_mem_take h1), by simpa using h2⟩
  obtain ⟨h1, h2, h3⟩ := foldl_insU _ [] trivial (fun t ht => nomatch ht) (fun t ht => (hsub t ht).1)
  refine ⟨h1, ?_, h3, ?_⟩
  · have h4 : (unkN kN u).length ≤ ([] : List (Nat × List UInt8)).length + ((u.take 32767).filter fun t => decide (kN ≤ t.1)).length := h2
    have h5 := List.length_filter_le (fun t : Nat × List UInt8 => decide (kN ≤ t.1)) (u.take 32767)
    simp only [List.length_nil, Nat.zero_add, List.length_take] at h4 h5
    omega
  · have key : ∀ (l acc : List (Nat × List UInt8)), (∀ t ∈ acc, kN ≤ t.1) → (∀ t ∈ l, kN ≤ t.1) → ∀ t ∈ l.foldl (fun acc t => insU t.1 t.2 acc) acc, kN ≤ t.1 := by
      intro l
      induction l with
      | nil => intro acc h1 _ t ht; exact h1 t ht
      | cons x l ih =>
        intro acc h1 h2 t ht
        refine ih (insU x.1 x.2 acc) (fun u hu => ?_) (fun u hu => h2 u (List.mem_cons_of_mem _ hu)) t ht
        rcases insU_mem acc x.1 x.2 u hu with rfl | hu
        · exact h2 x (List.mem_cons_self ..)
        · exact h1 u hu
    exact key _ [] (fun t ht => nomatch ht) (fun t ht => (hsub t ht).2)
theorem kus_gvM {ver : Int} {flex : Bool} {kN : Nat} {t : Tree} : ∀ {s : Sch} {fs : PFs} {m i : Nat}, agT ver flex s fs m = true → kus s (gvM ver flex kN s fs i t) = if flex then (unkN kN t.u).map fun u => (u.1, whole u.2) else []
  | .ktag _ d f rest, .cons k fr to nu tg df ok sub prest, m, i, h => by
    simp only [agT, Bool.and_eq_true, decide_eq_true_eq] at h
    simp only [gvM, kus]
    exact kus_gvM h.2
  | .tags _, .nil, _, _, _ => rfl
  | .tags _, .cons .., _, _, h => by cases h
  | .ktag .., .nil, _, _, h => by cases h
  | .leaf _, _, _, _, h => by cases h
  | .list _ _ _, _, _, _, h => by cases h
  | .opt _, _, _, _, h => by cases h
  | .done, _, _, _, h => by cases h
  | .cons .., _, _, _, h => by cases h
theorem wf_end {ver : Int} {flex : Bool} {kN : Nat} {t : Tree} (ht : TW t) : ∀ {s : Sch} {fs : PFs} {m i : Nat}, agT ver flex s fs m = true → lenK s ≤ kN → kN ≤ 1000 → (flex = true → ∀ x ∈ endT ver s fs m i t, x.2.length ≤ 4294967295) →
    WF ver flex s (gvM ver flex kN s fs i t)
  | .ktag off d f rest, .cons k fr to nu tg df ok sub prest, m, i, h, hl, hl2, hx => by
    have h0 := h
    simp only [agT, Bool.and_eq_true, decide_eq_true_eq] at h
    obtain ⟨⟨⟨h1, h2⟩, h3⟩, h4⟩ := h
    have hch := agT_chain h4
    simp only [lenK] at hl
    have ih := wf_end ht (kN := kN) (i := i + 1) h4 (by omega) hl2 (fun hf x hm => hx hf x (by simp only [endT, List.mem_append]; exact .inr hm))
    have hkd := ag_knd h2
    have hkus := kus_gvM (kN := kN) (t := t) (i := i + 1) h4
    obtain ⟨u1, u2, u3, u4⟩ := unkN_ok (kN := kN) ht.keys
    have hkl : (kus rest (gvM ver flex kN rest prest (i + 1) t)).length ≤ 32767 := by
      rw [hkus]
      cases flex
      · simp
      · simp; omega
    have hcount : ((if usual f d (if flex then gvS ver flex f nu sub 0 (atT t i) else dfl f d) then [] else [(0, ap ver flex f (if flex then gvS ver flex f nu sub 0 (atT t i) else dfl f d))]) ++ kt ver flex rest 1 (gvM ver flex kN rest prest (i + 1) t)).length ≤ 4294967295 := by
      have := kt_le ver flex rest 1 (gvM ver flex kN rest prest (i + 1) t)
      have hle : ∀ (b : Bool) (x : Nat × List UInt8), (if b then [] else [x] : List (Nat × List UInt8)).length ≤ 1 := fun b x => by cases b <;> simp
      have := hle (usual f d (if flex then gvS ver flex f nu sub 0 (atT t i) else dfl f d)) (0, ap ver flex f (if flex then gvS ver flex f nu sub 0 (atT t i) else dfl f d))
      rw [List.length_append]
      omega
    have hkus2 : ∀ u ∈ kus rest (gvM ver flex kN rest prest (i + 1) t), (chainL rest).length + 1 ≤ u.1 := by
      intro u hu
      rw [hkus] at hu
      rw [← lenK_chain rest hch]
      cases flex
      · cases hu
      · simp only [if_true, List.mem_map] at hu
        obtain ⟨y, hy, rfl⟩ := hu
        have := u4 y hy
        simp only
        omega
    simp only [gvM, WF]
    cases flex
    · exact ⟨(dfl_wf hkd).1, (dfl_wf hkd).2, ih, hkus2, hcount⟩
    · have hw : WF ver true f (gvS ver true f nu sub 0 (atT t i)) := gv_wf ver true f true k nu ok sub h3 0 (atT t i) (ht.at i)
      refine ⟨hw, ?_, ih, hkus2, hcount⟩
      simp only [if_true]
      cases hu : usual f d (gvS ver true f nu sub 0 (atT t i)) with
      | true => have := usual_short hkd hu hw; omega
      | false =>
        rw [ag_usual (ver := ver) (ok := ok) (sub := sub) h2] at hu
        have := hx rfl (m, pField ver true k nu ok (pPart ver true sub) (atT t i)) (by simp [endT, hu])
        rw [ag_field h3] at this
        exact this
  | .tags off, .nil, m, i, h, hl, hl2, hx => by
    obtain ⟨u1, u2, u3, u4⟩ := unkN_ok (kN := kN) ht.keys
    cases flex
    · exact ⟨trivial, by simp, (fun u hu => nomatch hu), fun _ => rfl⟩
    · refine ⟨rising_map whole u1, ?_, ?_, fun h => nomatch h⟩
      · simp; omega
      · intro u hu
        simp only [if_true, List.mem_map] at hu
        obtain ⟨x, hx, rfl⟩ := hu
        have := whole_length x.2
        exact ⟨u3 x hx, by simp only; omega⟩
  | .tags _, .cons .., _, _, h, _, _, _ => by cases h
  | .ktag .., .nil, _, _, h, _, _, _ => by cases h
  | .leaf _, _, _, _, h, _, _, _ => by cases h
  | .list _ _ _, _, _, _, h, _, _, _ => by cases h
  | .opt _, _, _, _, h, _, _, _ => by cases h
  | .done, _, _, _, h, _, _, _ => by cases h
  | .cons .., _, _, _, h, _, _, _ => by cases h
theorem wf_gvM {ver : Int} {flex : Bool} {kN : Nat} {F : PFs} {t : Tree} (ht : TW t) (hx : flex = true → ∀ k, ∀ x ∈ pOne ver true k F 0 t, x.2.length ≤ 4294967295) : ∀ {s : Sch} {fs : PFs} {i : Nat}, agM ver flex s fs = true → lenM s ≤ kN → kN ≤ 1000 → (∀ k, pOne ver true k F 0 t = pOne ver true k fs i t) →
    WF ver flex s (gvM ver flex kN s fs i t)
  | .cons _ lo hi f rest, .cons k fr to nu tg df ok sub prest, i, h, hl, hl2, hone => by
    simp only [agM, Bool.and_eq_true, decide_eq_true_eq, beq_iff_eq, Bool.or_eq_true, Bool.not_eq_true'] at h
    obtain ⟨⟨⟨h1, h2⟩, h3⟩, h4⟩ := h
    refine ⟨fun hv => gv_wf ver flex f true k nu ok sub (h3.resolve_left (by rw [hv]; exact fun h => by cases h)) 0 (atT t i) (ht.at i), wf_gvM ht hx h4 hl hl2 fun j => ?_⟩
    rw [hone j]
    have hne : ¬ (tg = (j : Int) ∧ usualT k df (atT t i) = false) := by omega
    simp only [pOne, if_neg hne, List.nil_append]
  | .ktag off d f rest, fs, i, h, hl, hl2, hone => by
    refine wf_end ht h hl hl2 fun hf x hxm => ?_
    subst hf
    rw [← pOne_all h, List.mem_flatMap] at hxm
    obtain ⟨k, -, hk⟩ := hxm
    rw [← hone k] at hk
    exact hx rfl k x hk
  | .cons .., .nil, _, h, _, _, _ => by cases h
  | .leaf _, _, _, h, _, _, _ => by cases h
  | .list _ _ _, _, _, h, _, _, _ => by cases h
  | .opt _, _, _, h, _, _, _ => by cases h
  | .done, _, _, h, _, _, _ => by cases h
  | .tags _, _, _, h, _, _, _ => by cases h
theorem treeRdT {ver : Int} {flex : Bool} {s : Sch} {fs : PFs} (hok : okS ver flex s = true) (hag : agM ver flex s fs = true) (hkn : lenM s ≤ 1000) (t : Tree) (ht : TW t) (hx : flex = true → ∀ k, ∀ x ∈ pOne ver true k fs 0 t, x.2.length ≤ 4294967295) :
    WF ver flex s (gvM ver flex fs.known s fs 0 t) ∧ pPartT ver flex fs t = ap ver flex s (gvM ver flex fs.known s fs 0 t) ∧
    ∃ gv, rd ver flex s (pPartT ver flex fs t) = some (gv, []) ∧ ap ver flex s gv = pPartT ver flex fs t ∧ ∀ n, n < (pPartT ver flex fs t).length → rd ver flex s ((pPartT ver flex fs t).take n) = none := by
  have hk := known_agM hag
  have e : pPartT ver flex fs t = ap ver flex s (gvM ver flex fs.known s fs 0 t) := gvM_ap hag hk fun _ => rfl
  have hw : WF ver flex s (gvM ver flex fs.known s fs 0 t) := wf_gvM ht hx hag (by omega) (by omega) fun _ => rfl
  obtain ⟨v', -, h2, h3⟩ := rd_ap ver flex s _ hok hw
  rw [← e] at h2 h3
  refine ⟨hw, e, v', ?_, h2, fun n hn => cut_none (Mono.rd ver flex s) h3 hn⟩
  have := h3 []
  rwa [List.append_nil] at this
end Go.Proofs.YtmpilpgabelmiaaGreatDoor

/- What is kept, where the message's own fields have tags. -/
namespace Go.Proofs.YtmpilpgabelmiaaGreatDoor
open Go Go.RowKit
set_option linter.unusedVariables false

theorem treeRdKT {ver : Int} {fl : Int → Bool} {s : Sch} {fs : PFs} (h0 : 0 ≤ ver) (h1 : ver ≤ 32767) (hok : okS ver (fl ver) s = true) (hag : agM ver (fl ver) s fs = true) (hkn : lenM s ≤ 1000) (t : Tree) (ht : TW t)
    (hx : fl ver = true → ∀ k, ∀ x ∈ pOne ver true k fs 0 t, x.2.length ≤ 4294967295) :
    ∃ gv, rdK fl s (fixed ver 2 ++ pPartT ver (fl ver) fs t) = some ((ver, gv), []) ∧ be16 ver ++ ap ver (fl ver) s gv = fixed ver 2 ++ pPartT ver (fl ver) fs t ∧ ∀ n, n < (fixed ver 2 ++ pPartT ver (fl ver) fs t).length → rdK fl s ((fixed ver 2 ++ pPartT ver (fl ver) fs t).take n) = none := by
  obtain ⟨hw, e, -⟩ := treeRdT hok hag hkn t ht hx
  obtain ⟨v', -, h2, h3⟩ := rd_ap ver (fl ver) s _ hok hw
  rw [← e] at h2 h3
  have h4 : Exact (be16 ver ++ pPartT ver (fl ver) fs t) (rdK fl s) (ver, v') := Exact.bind (Exact.int2 (by omega) h1) (Exact.bind_pure (f := fun v => (ver, v)) h3)
  have h5 : fixed ver 2 = be16 ver := by simp [fixed]
  rw [h5]
  refine ⟨v', ?_, by rw [h2], fun n hn => cut_none (Mono.rdK fl s) h4 hn⟩
  have := h4 []
  rwa [List.append_nil] at this
set_option maxRecDepth 100000 in
set_option maxHeartbeats 3200000 in
theorem spKeptT (fs : PFs) (htag : fs.tagOK) (hkind : fs.kindOK) (hsub : SubsAll fs) (ver fl : Int) (t : Tree) (flex : Bool)
    (hlen0 : (pKn ver true fs fs.known t).length ≤ 1000) (hcont : ∀ x ∈ pKn ver true fs fs.known t, x.2.length ≤ 4294967295) (hfl : flex = (decide (0 ≤ fl) && decide (fl ≤ ver))) (B base : Nat) (w : World) (fv : Value) (c : List Value) (hB : B ≤ base) (hb : base ≤ w.heap.size)
    (hf : RepF B w fs fv) (ht : RepT B w c t) (hl : (fixed ver 2 ++ pPartT ver flex fs t).length ≤ lim) :
    Gives Tryz.prog 6 #[.agg #[fv, .int .i64 fl], .int .i64 ver, .agg c.toArray] w base (fixed ver 2 ++ pPartT ver flex fs t) := by
  obtain ⟨sv, lv, uv, rfl, -, ⟨sa, sc, rfl, -⟩, ⟨la, lc, lf, rfl, -⟩, ⟨ua, uc, rfl, -⟩⟩ := ht.parts
  obtain ⟨fa, fcap, rfl, -⟩ := id hf
  have hM := (Blk.alloc_new w [.slice fa fs.len fcap, .int .i64 fl] 31).alloc (.cells #[.int .i64 t.n, .slice sa t.s.length sc, .bool t.null, .slice la t.l.length lc, .slice ua t.u.length uc] 26)
  have hT := Blk.alloc_new (w.alloc (.cells #[.slice fa fs.len fcap, .int .i64 fl] 31)) [.int .i64 t.n, .slice sa t.s.length sc, .bool t.null, .slice la t.l.length lc, .slice ua t.u.length uc] 26
  have hs1 : (w.alloc (.cells #[.slice fa fs.len fcap, .int .i64 fl] 31)).heap.size = w.heap.size + 1 := by simp
  have hb2 := ((Below.refl base w).alloc hb (.cells #[.slice fa fs.len fcap, .int .i64 fl] 31)).alloc (Nat.le_trans hb (by simp)) (.cells #[.int .i64 t.n, .slice sa t.s.length sc, .bool t.null, .slice la t.l.length lc, .slice ua t.u.length uc] 26)
  rw [hs1] at hT
  obtain ⟨W0, hW⟩ : ∃ W0, ((w.alloc (.cells #[.slice fa fs.len fcap, .int .i64 fl] 31)).alloc (.cells #[.int .i64 t.n, .slice sa t.s.length sc, .bool t.null, .slice la t.l.length lc, .slice ua t.u.length uc] 26)) = W0 := ⟨_, rfl⟩
  have hsW : W0.drew.heap.size = w.heap.size + 2 := by rw [← hW]; simp
  have c : W0.drew.cell? ⟨w.heap.size, 0, none⟩ = some (.slice fa fs.len fcap) ∧ W0.drew.cell? ⟨w.heap.size, 1, none⟩ = some (.int .i64 fl) ∧ W0.drew.cell? ⟨w.heap.size + 1, 0, none⟩ = some (.int .i64 t.n) ∧ W0.drew.cell? ⟨w.heap.size + 1, 1, none⟩ = some (.slice sa t.s.length sc) ∧ W0.drew.cell? ⟨w.heap.size + 1, 2, none⟩ = some (.bool t.null) ∧ W0.drew.cell? ⟨w.heap.size + 1, 3, none⟩ = some (.slice la t.l.length lc) ∧ W0.drew.cell? ⟨w.heap.size + 1, 4, none⟩ = some (.slice ua t.u.length uc) := by
    rw [← hW]
    exact ⟨hM.drew.cell_some (i := 0) rfl, hM.drew.cell_some (i := 1) rfl, hT.drew.cell_some (i := 0) rfl, hT.drew.cell_some (i := 1) rfl, hT.drew.cell_some (i := 2) rfl, hT.drew.cell_some (i := 3) rfl, hT.drew.cell_some (i := 4) rfl⟩
  have hbW : Below base w W0.drew := by rw [← hW]; exact hb2.drew
  have H := Lib.hid (And.intro (hf.below (hbW.mono hB)) (And.intro (ht.keep (hbW.mono hB)) (And.intro hbW c)))
  clear hM hT hb2 hbW hf ht c hs1
  go_enter Tryz.func6, Tryz.ntmps6
  go_wp2_with fail
  go_region_held3 (fun w' => w'.cell? ⟨w.heap.size, 0, none⟩ = some (.slice fa fs.len fcap) ∧ w'.cell? ⟨w.heap.size, 1, none⟩ = some (.int .i64 fl) ∧ w'.cell? ⟨w.heap.size + 1, 0, none⟩ = some (.int .i64 t.n) ∧ w'.cell? ⟨w.heap.size + 1, 1, none⟩ = some (.slice sa t.s.length sc) ∧ w'.cell? ⟨w.heap.size + 1, 2, none⟩ = some (.bool t.null) ∧ w'.cell? ⟨w.heap.size + 1, 3, none⟩ = some (.slice la t.l.length lc) ∧ w'.cell? ⟨w.heap.size + 1, 4, none⟩ = some (.slice ua t.u.length uc))
    (first | exact H.out.2.2.2 | exact hS3 | exact hS4 | exact hS5)
    (first
      | (go_at_call 16; refine (spFixed2 ver W0.drew.heap.size W0.drew (Nat.le_refl _)).mono ?_; rintro e w3 ⟨v3, rfl, hown3, hb3⟩; have z3 := hb3.size; have hS3 := keepK hb3 (by omega) H.out.2.2.2)
      | (go_at_call 11; refine (spWriteT fs htag hkind hsub ver fl t flex hlen0 hcont hfl B w3.heap.size w3 _ _ (by omega) (Nat.le_refl _) (H.out.1.below (hb3.mono (by omega))) (H.out.2.1.keep (hb3.mono (by omega))) (by simp only [List.length_append] at hl; omega)).mono ?_; rintro e w4 ⟨v4, rfl, hown4, hb4⟩; have z4 := hb4.size; have hS4 := keepK hb4 (by omega) hS3)
      | (refine step_append_from bt rfl (.tmp 8) (.tmp 12) rfl W0.drew.heap.size _ (hown3.stay hb4 (Nat.le_refl _)) (by omega) _ (Src.ofRL (B := w4.heap.size) Tryz.underlying22 (hown4.rl)) (by rw [← List.length_append]; exact hl) ?_; intro v5 w5 hown5 hb5; have hS5 := keepK hb5 (by omega) hS4))
  have FIN := Lib.hid (And.intro hown5 (H.out.2.2.1.trans (((hb3.mono (by omega)).trans (hb4.mono (by omega))).trans (hb5.mono (by omega)))))
  clear hown3 hb3 hown4 hb4 hown5 hb5 hS3 hS4
  go_wp2
  go_ret
  exact .mk (FIN.out.1.mono (by omega)) FIN.out.2
end Go.Proofs.YtmpilpgabelmiaaGreatDoor

/- How long are known tags? (Numbers.) -/
namespace Go.Proofs.YtmpilpgabelmiaaGreatDoor
open Go Go.RowKit
set_option linter.unusedVariables false

/-- Known tags' fields are numbers. -/
def PFs.numTags : PFs → Bool
  | .nil => true
  | .cons k _ _ _ tg _ _ _ rest => (decide (tg < 0) || (decide (1 ≤ k) && decide (k ≤ 6))) && rest.numTags
theorem pField_num {ver : Int} {flex : Bool} {k nu ok : Int} {pp : Tree → List UInt8} {t : Tree} (h0 : 1 ≤ k) (h1 : k ≤ 6) : (pField ver flex k nu ok pp t).length ≤ 8 := by
  have hk : k = 1 ∨ k = 2 ∨ k = 3 ∨ k = 4 ∨ k = 5 ∨ k = 6 := by omega
  rcases hk with rfl | rfl | rfl | rfl | rfl | rfl <;> simp [pField, pVal] <;> exact fixed_len _ _
theorem pOne_num {ver : Int} {flex : Bool} {k : Nat} {t : Tree} : ∀ {fs : PFs} {i : Nat}, fs.numTags = true → ∀ x ∈ pOne ver flex k fs i t, x.2.length ≤ 8
  | .nil, i, h, x, hx => by cases hx
  | .cons kk fr to nu tg df ok sub rest, i, h, x, hx => by
    simp only [PFs.numTags, Bool.and_eq_true, Bool.or_eq_true, decide_eq_true_eq] at h
    simp only [pOne, List.mem_append] at hx
    rcases hx with hx | hx
    · split at hx
      · rename_i hc
        simp only [List.mem_cons, List.not_mem_nil, or_false] at hx
        subst hx
        rcases h.1 with h1 | h1
        · omega
        · exact pField_num h1.1 h1.2
      · cases hx
    · exact pOne_num h.2 x hx
theorem pOne_len {ver : Int} {flex : Bool} {k : Nat} {t : Tree} : ∀ {fs : PFs} {i : Nat}, (pOne ver flex k fs i t).length ≤ fs.len
  | .nil, i => Nat.zero_le _
  | .cons kk fr to nu tg df ok sub rest, i => by
    have := pOne_len (ver := ver) (flex := flex) (k := k) (t := t) (fs := rest) (i := i + 1)
    simp only [pOne, List.length_append, PFs.len]
    split <;> simp <;> omega
theorem pKn_len {ver : Int} {flex : Bool} {fs : PFs} {t : Tree} : ∀ n, (pKn ver flex fs n t).length ≤ n * fs.len
  | 0 => by simp [pKn]
  | n + 1 => by
    have h1 := pKn_len (ver := ver) (flex := flex) (fs := fs) (t := t) n
    have h2 := pOne_len (ver := ver) (flex := flex) (k := n) (t := t) (fs := fs) (i := 0)
    rw [pKn_succ, List.length_append, Nat.add_mul]
    omega
theorem pKn_num {ver : Int} {flex : Bool} {fs : PFs} {t : Tree} {n : Nat} (h : fs.numTags = true) : ∀ x ∈ pKn ver flex fs n t, x.2.length ≤ 8 := by
  intro x hx
  obtain ⟨k, -, hk⟩ := List.mem_flatMap.1 hx
  exact pOne_num h x hk
theorem pTailT_max (ver : Int) (flex : Bool) (fs : PFs) (t : Tree) (h : fs.numTags = true) : (pTailT ver flex fs t).length ≤ tgMax flex + fs.known * fs.len * 28 := by
  cases flex
  · simp [pTailT]
  · have h1 := uv_len10 ((pKn ver true fs fs.known t).length + (unkN fs.known t.u).length)
    have h2 : ((pKn ver true fs fs.known t).flatMap kTag).length ≤ (pKn ver true fs fs.known t).length * 28 := flatMap_le fun x hx => by
      have := pKn_num h x hx
      have := uv_len10 x.1
      have := uv_len10 x.2.length
      simp only [kTag, List.length_append]
      omega
    have h3 : ((unkN fs.known t.u).flatMap pTag).length ≤ (unkN fs.known t.u).length * 32787 := flatMap_le fun x _ => by
      have h4 := pTag_len x
      have h5 := (whole_le x.2).1
      omega
    have h4 := Nat.mul_le_mul_right 28 (pKn_len (ver := ver) (flex := true) (fs := fs) (t := t) fs.known)
    have h5 := Nat.mul_le_mul_right 32787 (unkN_len fs.known t.u)
    simp only [pTailT, tgMax, if_true, List.length_append]
    omega
theorem pPartT_max (ver : Int) (flex : Bool) (fs : PFs) (t : Tree) (h : fs.numTags = true) : (pPartT ver flex fs t).length ≤ mx flex fs + tgMax flex + fs.known * fs.len * 28 := by
  have h1 := pFields_max ver flex fs 0 t
  have h2 := pTailT_max ver flex fs t h
  simp only [pPartT, List.length_append]
  omega
end Go.Proofs.YtmpilpgabelmiaaGreatDoor
