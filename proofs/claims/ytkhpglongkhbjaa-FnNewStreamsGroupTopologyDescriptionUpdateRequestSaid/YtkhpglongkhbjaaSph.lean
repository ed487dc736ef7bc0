/- What the reference writes of a part. -/
import Derived.Test.YtkhpglongkhbjaaUn
import Derived.Test.YtkhpglongkhbjaaSpo
namespace Go.Proofs.Ytkhpglongkhbjaa
open Go Go.RowKit

/-- (Once: no part of it may be null; by now all are borne.) -/
def PFs.noOpt : PFs → Prop
  | .nil => True
  | .cons _ _ _ _ _ _ _ sub rest => True ∧ sub.noOpt ∧ rest.noOpt
/-- No unknown tags, to the bottom. -/
inductive NoU : Tree → Prop
  | mk (n : Int) (s : List UInt8) (null : Bool) (l : List Tree) (h : ∀ t, t ∈ l → NoU t) : NoU (.mk n s null l [])
theorem NoU.zero : NoU .zero := .mk 0 [] false [] (fun t h => by simp at h)
theorem NoU.u {t : Tree} (h : NoU t) : t.u = [] := by cases h; rfl
theorem NoU.mem {t t' : Tree} (h : NoU t) (hm : t' ∈ t.l) : NoU t' := by
  cases h with
  | mk n s null l h => exact h t' hm
theorem NoU.at {t : Tree} (h : NoU t) (i : Nat) : NoU (atT t i) := by
  unfold atT
  by_cases hi : i < t.l.length
  · rw [List.getD_eq_getElem?_getD, List.getElem?_eq_getElem hi]
    exact h.mem (List.getElem_mem hi)
  · rw [List.getD_eq_getElem?_getD, List.getElem?_eq_none (by omega)]
    exact .zero
/-- The function writes of fields what pPart says. -/
def PartAll (fs : PFs) : Prop := ∀ ver flex t, PartC fs ver flex t
/-- .. of those of all parts of fields. -/
def SubsAll : PFs → Prop
  | .nil => True
  | .cons _ _ _ _ _ _ _ sub rest => PartAll sub ∧ SubsAll rest

theorem spField (k fr to nu tg df ok : Int) (sub : PFs) (ver : Int) (flex : Bool) (t : Tree) (_ : True) (hp : PartAll sub) : FieldC k fr to nu tg df ok sub ver flex t := by
  by_cases hk : k = 11
  · subst hk
    cases hnl : pNull nu ver t
    · exact spFieldList_some fr to nu tg df ok sub ver flex t hnl fun t' _ => spValue ok sub false ver flex t' fun _ => hp ver flex t'
    · exact spFieldList_null fr to nu tg df ok sub ver flex t hnl
  · by_cases hn : k = 10 ∧ 0 ≤ nu
    · obtain ⟨rfl, hnu⟩ := hn
      cases hnl : pNull nu ver t
      · exact spFieldOpt_some fr to nu tg df ok sub ver flex t hnu hnl (hp ver flex t)
      · exact spFieldOpt_null fr to nu tg df ok sub ver flex t hnu hnl
    · exact spFieldVal k fr to nu tg df ok sub ver flex t hk hn (spValue k sub _ ver flex t fun _ => hp ver flex t)

theorem Left.start2 {B : Nat} {w : World} {fs : PFs} {a : Option Addr} {n cap : Nat} (h : RepF B w fs (.slice a n cap)) (ht : fs.noTag) :
    n ≤ 9223372036854775807 ∧ (n ≠ 0 → ∃ p q, a = some ⟨p, q, none⟩ ∧ p < B) ∧ Left B w a n 0 fs := by
  obtain ⟨rfl, h1, h2, h3⟩ := Left.start h ht
  refine ⟨h1, h2, ?_⟩
  cases fs with
  | nil => exact ⟨rfl, ht, fun _ _ _ => trivial⟩
  | cons => exact h3 (by simp [PFs.len])

theorem keep13 {n p b : Nat} {w w' : World} {v0 v1 v2 v3 v4 x0 x1 x2 x3 x4 x5 x6 x7 : Value} (hb : Below n w w') (hp : p < n) (hbb : b < n)
    (h : w.cell? ⟨p, 0, none⟩ = some v0 ∧ w.cell? ⟨p, 1, none⟩ = some v1 ∧ w.cell? ⟨p, 2, none⟩ = some v2 ∧ w.cell? ⟨p, 3, none⟩ = some v3 ∧ w.cell? ⟨p, 4, none⟩ = some v4 ∧
      w.cell? ⟨b, 0, none⟩ = some x0 ∧ w.cell? ⟨b, 1, none⟩ = some x1 ∧ w.cell? ⟨b, 2, none⟩ = some x2 ∧ w.cell? ⟨b, 3, none⟩ = some x3 ∧ w.cell? ⟨b, 4, none⟩ = some x4 ∧ w.cell? ⟨b, 5, none⟩ = some x5 ∧ w.cell? ⟨b, 6, none⟩ = some x6 ∧ w.cell? ⟨b, 7, none⟩ = some x7) :
    w'.cell? ⟨p, 0, none⟩ = some v0 ∧ w'.cell? ⟨p, 1, none⟩ = some v1 ∧ w'.cell? ⟨p, 2, none⟩ = some v2 ∧ w'.cell? ⟨p, 3, none⟩ = some v3 ∧ w'.cell? ⟨p, 4, none⟩ = some v4 ∧
      w'.cell? ⟨b, 0, none⟩ = some x0 ∧ w'.cell? ⟨b, 1, none⟩ = some x1 ∧ w'.cell? ⟨b, 2, none⟩ = some x2 ∧ w'.cell? ⟨b, 3, none⟩ = some x3 ∧ w'.cell? ⟨b, 4, none⟩ = some x4 ∧ w'.cell? ⟨b, 5, none⟩ = some x5 ∧ w'.cell? ⟨b, 6, none⟩ = some x6 ∧ w'.cell? ⟨b, 7, none⟩ = some x7 := by
  have hP : ∀ i, w'.cell? ⟨p, i, none⟩ = w.cell? ⟨p, i, none⟩ := fun i => hb.cell (p := ⟨p, i, none⟩) hp
  have hQ : ∀ i, w'.cell? ⟨b, i, none⟩ = w.cell? ⟨b, i, none⟩ := fun i => hb.cell (p := ⟨b, i, none⟩) hbb
  simp only [hP, hQ]
  exact h

theorem keep13c {p b : Nat} {w w' : World} {v0 v1 v2 v3 v4 x0 x1 x2 x3 x4 x5 x6 x7 : Value} (hP : ∀ i, w'.cell? ⟨p, i, none⟩ = w.cell? ⟨p, i, none⟩) (hQ : ∀ i, w'.cell? ⟨b, i, none⟩ = w.cell? ⟨b, i, none⟩)
    (h : w.cell? ⟨p, 0, none⟩ = some v0 ∧ w.cell? ⟨p, 1, none⟩ = some v1 ∧ w.cell? ⟨p, 2, none⟩ = some v2 ∧ w.cell? ⟨p, 3, none⟩ = some v3 ∧ w.cell? ⟨p, 4, none⟩ = some v4 ∧
      w.cell? ⟨b, 0, none⟩ = some x0 ∧ w.cell? ⟨b, 1, none⟩ = some x1 ∧ w.cell? ⟨b, 2, none⟩ = some x2 ∧ w.cell? ⟨b, 3, none⟩ = some x3 ∧ w.cell? ⟨b, 4, none⟩ = some x4 ∧ w.cell? ⟨b, 5, none⟩ = some x5 ∧ w.cell? ⟨b, 6, none⟩ = some x6 ∧ w.cell? ⟨b, 7, none⟩ = some x7) :
    w'.cell? ⟨p, 0, none⟩ = some v0 ∧ w'.cell? ⟨p, 1, none⟩ = some v1 ∧ w'.cell? ⟨p, 2, none⟩ = some v2 ∧ w'.cell? ⟨p, 3, none⟩ = some v3 ∧ w'.cell? ⟨p, 4, none⟩ = some v4 ∧
      w'.cell? ⟨b, 0, none⟩ = some x0 ∧ w'.cell? ⟨b, 1, none⟩ = some x1 ∧ w'.cell? ⟨b, 2, none⟩ = some x2 ∧ w'.cell? ⟨b, 3, none⟩ = some x3 ∧ w'.cell? ⟨b, 4, none⟩ = some x4 ∧ w'.cell? ⟨b, 5, none⟩ = some x5 ∧ w'.cell? ⟨b, 6, none⟩ = some x6 ∧ w'.cell? ⟨b, 7, none⟩ = some x7 := by
  simp only [hP, hQ]
  exact h
theorem step_append_far {P : Program} {w : World} {ops : Array Oper} {o : Oper} {a : Act} {K : Act → World → Prop} {Q : Exit → Act → World → Prop} {E : Prop} {t tx : TypeId} (T : BytesT P t 5) (hgd : o.guard = none) (s x : Operand)
    (ho : o.op = .call { callee := .builtin .append, args := #[s, x], argTypes := #[t, tx] }) (base : Nat) (bs : List UInt8) (hown : Own base w (a.eval s) bs) (hb : base ≤ w.heap.size)
    (bs' : List UInt8) (hsrc : Src P 1 tx (a.eval x) bs'.length (bs'.map byteV) w) (hl : bs.length + bs'.length ≤ lim)
    (h : ∀ v' w', Own base w' v' (bs ++ bs') → Below base w w' → (∀ g, g < w.heap.size → (a.eval s).ownBlock ≠ some g → w'.heap[g]? = w.heap[g]?) → K (a.put o.dst v') w') : if Region.wanted o (yielded ops a.tmps) = true then Oper.wp P o a w K Q else E := by
  have hw : Region.wanted o (yielded ops a.tmps) = true := by simp [Region.wanted, hgd]
  rw [if_pos hw]
  obtain ⟨i, hi, hz, hs, hby⟩ := T.info
  refine wp_append_src s x t tx ho base 5 i (.int .u8 0) 1 1 T.under hi hz hs hby rfl (a.eval s) bs.length (bs.map byteV) rfl hown _ bs'.length (bs'.map byteV) rfl hsrc (lim_max hl) (lim_room hl) hb ?_
  intro v' w' hown' hg _
  refine h v' w' ?_ ?_ (fun g hlt hne => hg.block g hlt (fun e => hne e.symm))
  · unfold Own
    simpa using hown'
  · exact (Below.refl _ _).grown hg hb (fun k hk => by
      have := hown.lt k hk
      omega)

theorem wpl_append_far {P : Program} {w : World} {ops : Array Oper} {rest : List Oper} {o : Oper} {a : Act} {Q : Exit → Act → World → Prop} {t tx : TypeId} (T : BytesT P t 5) (hgd : o.guard = none) (s x : Operand)
    (ho : o.op = .call { callee := .builtin .append, args := #[s, x], argTypes := #[t, tx] }) (base : Nat) (bs : List UInt8) (hown : Own base w (a.eval s) bs) (hb : base ≤ w.heap.size)
    (bs' : List UInt8) (hsrc : Src P 1 tx (a.eval x) bs'.length (bs'.map byteV) w) (hl : bs.length + bs'.length ≤ lim)
    (h : ∀ v' w', Own base w' v' (bs ++ bs') → Below base w w' → (∀ g, g < w.heap.size → (a.eval s).ownBlock ≠ some g → w'.heap[g]? = w.heap[g]?) → wpList P ops Q rest (a.put o.dst v') w') : wpList P ops Q (o :: rest) a w := by
  obtain ⟨i, hi, hz, hs, hby⟩ := T.info
  refine wpl_append_src hgd s x t tx ho base 5 i (.int .u8 0) 1 1 T.under hi hz hs hby rfl (a.eval s) bs.length (bs.map byteV) rfl hown _ bs'.length (bs'.map byteV) rfl hsrc (lim_max hl) (lim_room hl) hb ?_
  intro v' w' hown' hg _
  refine h v' w' ?_ ?_ (fun g hlt hne => hg.block g hlt (fun e => hne e.symm))
  · unfold Own
    simpa using hown'
  · exact (Below.refl _ _).grown hg hb (fun k hk => by
      have := hown.lt k hk
      omega)
theorem Own.apart {base : Nat} {w w' : World} {v : Value} {bs : List UInt8} (h : Own base w v bs) (hk : ∀ g, v.ownBlock = some g → w'.heap[g]? = w.heap[g]?) : Own base w' v bs := by
  refine ⟨h.1, ?_⟩
  rcases h.2 with hz | ⟨g, cap, cur, hv, hbg, hg, rest⟩
  · exact .inl hz
  · exact .inr ⟨g, cap, cur, hv, hbg, (hk g (by rw [hv]; rfl)).trans hg, rest⟩

theorem pFields_skip {ver : Int} {flex : Bool} {k fr to nu df ok : Int} {sub rest : PFs} {i : Nat} {t : Tree} (h : pHas fr to ver = false) : pFields ver flex (.cons k fr to nu (-1) df ok sub rest) i t = pFields ver flex rest (i + 1) t := by
  simp [pFields, h]
theorem pFields_take {ver : Int} {flex : Bool} {k fr to nu df ok : Int} {sub rest : PFs} {i : Nat} {t : Tree} (h : pHas fr to ver = true) :
    pFields ver flex (.cons k fr to nu (-1) df ok sub rest) i t = pField ver flex k nu ok (pPart ver flex sub) (atT t i) ++ pFields ver flex rest (i + 1) t := by
  simp only [pFields, h, Bool.and_true]
  rfl

set_option maxRecDepth 100000 in
set_option maxHeartbeats 6400000 in
theorem partOf (fs : PFs) (htag : fs.noTag) (hopt : fs.noOpt) (hsub : SubsAll fs) : PartAll fs := by
  intro ver flex t B base w fv c hB hb hf ht hl
  obtain ⟨fa, fcap, rfl, -⟩ := id hf
  obtain ⟨hmax, hne, L0⟩ := Left.start2 hf htag
  obtain ⟨n, hnn⟩ : ∃ n, fs.len = n := ⟨_, rfl⟩
  rw [hnn] at hmax hne L0 hf ⊢
  obtain ⟨sv, lv, uv, rfl, -, ⟨sa, sc, rfl, -⟩, ⟨la, lc, lf, rfl, -⟩, hU⟩ := ht.parts
  obtain ⟨ua, uc, rfl, -⟩ := id hU
  have hw2 := Blk.alloc_new w [.int .i64 t.n, .slice sa t.s.length sc, .bool t.null, .slice la t.l.length lc, .slice ua t.u.length uc] 35
  have hbw := (Below.refl base w).alloc hb (.cells #[.int .i64 t.n, .slice sa t.s.length sc, .bool t.null, .slice la t.l.length lc, .slice ua t.u.length uc] 35)
  have e1 : (w.alloc (.cells #[.int .i64 t.n, .slice sa t.s.length sc, .bool t.null, .slice la t.l.length lc, .slice ua t.u.length uc] 35)).heap.size = w.heap.size + 1 := by simp
  have H := Lib.hid (And.intro hw2 (And.intro hbw (And.intro e1 (And.intro hf (And.intro ht (And.intro hU (And.intro hne (And.intro L0 (And.intro hsub hopt)))))))))
  have HTAG := Lib.hid htag
  clear hw2 hbw e1 hf ht hU hne L0 hsub hopt htag
  go_enter Try.func16, Try.ntmps16
  go_wp2_with fail
  obtain ⟨w2, hw2e⟩ : ∃ w2, w2 = w.alloc (.cells #[.int .i64 t.n, .slice sa t.s.length sc, .bool t.null, .slice la t.l.length lc, .slice ua t.u.length uc] 35) := ⟨_, rfl⟩
  rw [← hw2e] at H ⊢
  clear hw2e
  go_loopw [9, 23] (fun v i wr => ∃ k gs X, i = .int .i64 (k : Nat) ∧ Own (w.heap.size + 1) wr v X ∧ X ++ pFields ver flex gs k t = pFields ver flex fs 0 t ∧ Left B w fa n k gs ∧ SubsAll gs ∧ gs.noOpt ∧ Below (w.heap.size + 1) w2 wr)
    (fun _ i _ => n - (intOf i).toNat)
  case atStart =>
    obtain ⟨hw2, hbw, e1, hf, ht, hU, hne, L0, hsub, hopt⟩ := H.out
    exact ⟨0, fs, [], rfl, Own.nil _ _, rfl, L0, hsub, hopt, Below.refl _ _⟩
  case round =>
    obtain ⟨k, gs, X, rfl, hown, hX, L, hsub, hopt, hbk⟩ := hrel
    obtain ⟨hw2, hbw, e1, hf, ht, hU, hne, -, -⟩ := H.out
    cases gs with
    | nil =>
      have hlen := L.len
      simp only [PFs.len, Nat.add_zero] at hlen
      subst hlen
      have hXe : X = pFields ver flex fs 0 t := by rw [← hX]; simp [pFields]
      have hww : w.heap.size + 1 ≤ wr.heap.size := by have := hbk.size; omega
      have hbwr : Below base w wr := hbw.trans (hbk.mono (by omega))
      clear hX L hsub hopt hne
      cases flex
      · have e : pPart ver false fs t = X := by rw [hXe]; simp [pPart, pTail]
        have R := Lib.hid (And.intro (show Own base wr u9 (pPart ver false fs t) by rw [e]; exact hown.mono (show base ≤ w.heap.size + 1 by omega)) hbwr)
        clear hbwr hown e hXe hw2 hbw e1 hf ht hU
        go_wp2
        go_ret
        exact .mk R.out.1 R.out.2
      · have uk2 := unk_len t.u
        obtain ⟨U, hUe⟩ : ∃ U, unk t.u = U := ⟨_, rfl⟩
        rw [hUe] at uk2
        have e : pPart ver true fs t = X ++ (uv U.length ++ U.flatMap pTag) := by rw [hXe]; simp only [pPart, pTail, if_true, hUe]
        have hlX : X.length + (uv U.length).length + (U.flatMap pTag).length ≤ lim := by
          rw [e, List.length_append, List.length_append] at hl
          omega
        have E := Lib.hid e
        clear e
        have K := Lib.hid (spKnown0 fs HTAG.out (.slice fa k fcap) B wr.heap.size wr (by omega) (Nat.le_refl _) (hf.below (hbwr.mono hB)))
        have R := Lib.hid (And.intro hown (And.intro hbwr (And.intro hf (And.intro hU (hw2.below hbk (by omega))))))
        clear hbwr hown hXe hw2 hbw e1 hf ht hU
        go_wp2_with fail
        refine K.out.mono ?_
        rintro e w6 ⟨rfl, hb6⟩
        go_wp2_with fail
        refine wp_loop_rounds 1 ?_
        rw [rounds_succ]
        obtain ⟨hown, hbwr, hf, hU, hT⟩ := R.out
        have z6 := hb6.size
        obtain ⟨t0, t1, t2, t3, t4⟩ := boxT (hT.below hb6 (by omega))
        have UK := spUnknown fs HTAG.out (.slice fa k fcap) (.slice ua t.u.length uc) t.u B w6.heap.size w6 (by omega) (Nat.le_refl _) (hf.below ((hbwr.trans (hb6.mono (by omega))).mono hB)) (hU.below ((hbwr.trans (hb6.mono (by omega))).mono hB))
        rw [hUe] at UK
        have UK := Lib.hid UK
        have R6 := Lib.hid (And.intro (hown.stay hb6 (Nat.le_refl _)) (hbwr.trans (hb6.mono (by omega))))
        clear hown hbwr hf hU hT hb6
        go_wp2_with fail
        refine UK.out.mono ?_
        rintro e w7 ⟨v7, rfl, hR7, hb7⟩
        have z7 := hb7.size
        obtain ⟨va, vcap, rfl, -, hvc, hvr⟩ := id hR7
        have R7 := Lib.hid (And.intro hvr (And.intro (R6.out.1.stay hb7 (Nat.le_refl _)) (R6.out.2.trans (hb7.mono (by omega)))))
        clear hR7 hvr hb7 UK K
        go_wp2_with fail
        go_loopw [10, 11, 102] (fun tv mv i wq => ∃ j : Nat, i = .int .i64 (j : Nat) ∧ mv = .int .i64 (j : Nat) ∧ j ≤ U.length ∧ Own w7.heap.size wq tv ((U.take j).flatMap pTag) ∧ Below w7.heap.size w7 wq)
          (fun _ _ i _ => U.length - (intOf i).toNat)
        case atStart => exact ⟨0, rfl, rfl, Nat.zero_le _, Own.nil _ _, Below.refl _ _⟩
        case round =>
          obtain ⟨j, rfl, rfl, hj, hownt, hbq⟩ := hrel
          rename World => wq
          have zq := hbq.size
          by_cases hjl : j < U.length
          · have hkv : U[j]? = some U[j] := List.getElem?_eq_getElem hjl
            obtain ⟨p, q, rfl, hp, hc⟩ := R7.out.1 (by intro e; rw [e] at hjl; simp at hjl)
            obtain ⟨c0, hkey, x, c1, hx⟩ := hc j _ hkv
            obtain ⟨xa, xcap, rfl, -⟩ := id hx
            rw [Nat.mul_comm 2 j] at c0 c1
            have d0 := (hbq.cell (p := ⟨p, q + j * 2, none⟩) hp).trans c0
            have d1 := (hbq.cell (p := ⟨p, q + j * 2 + 1, none⟩) hp).trans c1
            have hx1 := hx.below hbq
            have hkl : ((U.take (j + 1)).flatMap pTag).length ≤ (U.flatMap pTag).length := by
              conv => rhs; rw [← List.take_append_drop (j + 1) U]
              rw [List.flatMap_append, List.length_append]
              omega
            have htk : (U.take (j + 1)).flatMap pTag = (U.take j).flatMap pTag ++ (uv U[j].1 ++ uv (whole U[j].2).length ++ whole U[j].2) := by
              rw [List.take_add_one, hkv, List.flatMap_append]
              simp only [Option.toList_some, List.flatMap_cons, List.flatMap_nil, List.append_nil, pTag]
            have hwl : (whole U[j].2).length ≤ 32767 := by unfold whole; rw [List.length_take]; omega
            rw [htk] at hkl
            simp only [List.length_append] at hkl
            obtain ⟨ky, hky⟩ : ∃ ky, U[j].1 = ky := ⟨_, rfl⟩
            obtain ⟨sb, hsb⟩ : ∃ sb, U[j].2 = sb := ⟨_, rfl⟩
            rw [hky] at d0 hkey htk hkl
            rw [hsb] at d1 hx1 htk hkl hwl
            have hbw := fun o => (Below.refl wq.heap.size wq).alloc (Nat.le_refl _) o
            have HK := Lib.hid (And.intro hownt (And.intro hbq (And.intro hx1 htk)))
            clear hownt hbq hx hx1 htk c0 c1 hc
            go_wp2_with fail
            obtain ⟨wA, hwA⟩ : ∃ wA, wA = wq.alloc (.cells #[.int .u32 (ky : Int), .slice xa sb.length xcap] 87) := ⟨_, rfl⟩
            have bA : Below wq.heap.size wq wA := by rw [hwA]; exact hbw _
            have y0 : wA.cell? ⟨wq.heap.size, 0, none⟩ = some (.int .u32 (ky : Int)) := by rw [hwA]; exact (Blk.alloc_new wq [.int .u32 (ky : Int), .slice xa sb.length xcap] 87).cell_some (i := 0) rfl
            have y1 : wA.cell? ⟨wq.heap.size, 1, none⟩ = some (.slice xa sb.length xcap) := by rw [hwA]; exact (Blk.alloc_new wq [.int .u32 (ky : Int), .slice xa sb.length xcap] 87).cell_some (i := 1) rfl
            have zA : wA.heap.size = wq.heap.size + 1 := by rw [hwA]; simp
            rw [← hwA]
            clear hwA hbw
            refine (spWhole sb _ w7.heap.size wA (HK.out.2.2.1.below (bA.mono (by omega)))).mono ?_
            rintro e w' ⟨v', rfl, hv', rfl⟩
            obtain ⟨wa, wc, rfl, -⟩ := id hv'
            have HV := Lib.hid (And.intro hv' (HK.out.1.stay bA (Nat.le_refl _)))
            have hky2 : ((ky : Nat) : Int) ≤ 4294967295 := by omega
            have hwl2 : (((whole sb).length : Nat) : Int) ≤ 32767 := by omega
            clear hv' d0 d1
            go_wp2_with fail
            refine (spUvarint ky hkey wA.heap.size wA (Nat.le_refl _)).mono ?_
            rintro e wB ⟨x1, rfl, ho1, hb1⟩
            have zB := hb1.size
            go_wp2_with (at_builtin; refine halted ?_)
            refine wpl_append_from bt rfl _ _ rfl w7.heap.size _ (HV.out.2.stay hb1 (Nat.le_refl _)) (by omega) (uv ky) (Src.ofRL (B := wB.heap.size) Try.underlying28 ho1.rl) (by omega) ?_
            intro v2 w2 hown2 hb2
            have z2 := hb2.size
            clear ho1
            go_wp2_with fail
            refine (spUvarint (whole sb).length (by omega) w2.heap.size w2 (Nat.le_refl _)).mono ?_
            rintro e wC ⟨x3, rfl, ho3, hb3⟩
            have zC := hb3.size
            go_wp2_with (at_builtin; refine halted ?_)
            refine wpl_append_from bt rfl _ _ rfl w7.heap.size _ (hown2.stay hb3 (Nat.le_refl _)) (by omega) (uv (whole sb).length) (Src.ofRL (B := wC.heap.size) Try.underlying28 ho3.rl) (by rw [List.length_append]; omega) ?_
            intro v4 w4 hown4 hb4
            have z4 := hb4.size
            clear ho3 hown2
            have b14 : Below w7.heap.size wA w4 := (hb1.mono (by omega)).trans (hb2.trans ((hb3.mono (by omega)).trans hb4))
            go_wp2_with (at_builtin; refine halted ?_)
            refine wpl_append_from bt rfl _ _ rfl w7.heap.size _ hown4 (by omega) (whole sb) (Src.ofRL (B := w7.heap.size) Try.underlying28 (HV.out.1.below b14)) (by rw [List.length_append, List.length_append]; omega) ?_
            intro v5 w5 hown5 hb5
            have FIN := Lib.hid (show ∃ j' : Nat, Value.int .i64 ((j : Int) + 1) = .int .i64 (j' : Nat) ∧ Value.int .i64 ((j : Int) + 1) = .int .i64 (j' : Nat) ∧ j' ≤ U.length ∧ Own w7.heap.size w5 v5 ((U.take j').flatMap pTag) ∧ Below w7.heap.size w7 w5 from
              ⟨j + 1, by go_num, by go_num, by omega, by rw [HK.out.2.2.2]; simpa only [List.append_assoc] using hown5, HK.out.2.1.trans ((bA.mono (by omega)).trans (b14.trans hb5))⟩)
            clear hown5 hown4 hb1 hb2 hb3 hb4 hb5 b14 bA y0 y1 HV
            go_wp2
            go_roundw
            case rel => exact FIN.out
            case measure => simp [intOf]; omega
          · obtain rfl : j = U.length := by omega
            rw [List.take_of_length_le (Nat.le_refl _)] at hownt
            have RQ := Lib.hid (And.intro hownt (And.intro hbq (And.intro (R7.out.2.1.stay hbq (Nat.le_refl _)) (R7.out.2.2.trans (hbq.mono (by omega))))))
            clear hownt hbq
            go_wp2_with fail
            refine (spUvarint U.length (by omega) wq.heap.size wq (Nat.le_refl _)).mono ?_
            rintro e w8 ⟨v8, rfl, hown8, hb8⟩
            have z8 := hb8.size
            go_wp2_with (at_builtin; refine halted ?_)
            refine wpl_append_far bt rfl _ _ rfl (w.heap.size + 1) X (RQ.out.2.2.1.stay hb8 (Nat.le_refl _)) (by omega) (uv U.length) (Src.ofRL (B := w8.heap.size) Try.underlying28 hown8.rl) (by omega) ?_
            intro v9 w9 hown9 hb9 hg9
            have ht8 := RQ.out.1.stay hb8 (Nat.le_refl _)
            have ht9 := ht8.apart (w' := w9) (fun g hg => hg9 g (ht8.lt g hg).2 (fun e => by have h1 := R7.out.2.1.lt g e; have h2 := ht8.lt g hg; omega))
            have z9 := hb9.size
            go_wp2_with (at_builtin; refine halted ?_)
            refine wpl_append_from bt rfl _ _ rfl (w.heap.size + 1) _ hown9 (by omega) (U.flatMap pTag) (Src.ofRL (B := w9.heap.size) Try.underlying28 ht9.rl) (by rw [List.length_append]; omega) ?_
            intro v10 w10 hown10 hb10
            rw [List.append_assoc] at hown10
            have F := Lib.hid (And.intro (show Own base w10 v10 (pPart ver true fs t) by rw [E.out]; exact hown10.mono (show base ≤ w.heap.size + 1 by omega)) (((RQ.out.2.2.2).trans (hb8.mono (by omega))).trans ((hb9.mono (by omega)).trans (hb10.mono (by omega)))))
            clear hown10 hown9 hown8 hb8 hb9 hb10 R6 hg9 ht8 ht9
            go_wp2
            go_ret
            exact .mk F.out.1 F.out.2
    | cons kk fr to nu tg df ok sub rest =>
      have hlen := L.len
      simp only [PFs.len] at hlen
      have hkn : k < n := by omega
      obtain ⟨p, q, rfl, hp⟩ := hne (by omega)
      have hbwr : Below base w wr := hbw.trans (hbk.mono (by omega))
      obtain ⟨⟨h1, h2, h3, h4, h5, h6, h7⟩, ⟨v8, h8, a8, cap8, rfl, hf8⟩, hrest⟩ := (L.cells p q rfl).below (hbwr.mono hB) hp
      have hsubF : RepF B wr sub (.slice a8 sub.len cap8) := ⟨a8, cap8, rfl, hf8⟩
      obtain ⟨rfl, htags, htagr⟩ := L.noTag
      obtain ⟨ho1, ho2, ho3⟩ := hopt
      have hpw : p < wr.heap.size := by have := hbwr.size; omega
      have hww : w.heap.size + 1 ≤ wr.heap.size := by have := hbk.size; omega
      have hT := boxT (hw2.below hbk (by omega))
      have hF := boxF (Blk.alloc_new wr [.int .i64 kk, .int .i64 fr, .int .i64 to, .int .i64 nu, .int .i64 (-1), .int .i64 df, .int .i64 ok, .slice a8 sub.len cap8] 43)
      have hb5 := (Below.refl wr.heap.size wr).alloc (Nat.le_refl _) (.cells #[.int .i64 kk, .int .i64 fr, .int .i64 to, .int .i64 nu, .int .i64 (-1), .int .i64 df, .int .i64 ok, .slice a8 sub.len cap8] 43)
      have hs5 : (wr.alloc (.cells #[.int .i64 kk, .int .i64 fr, .int .i64 to, .int .i64 nu, .int .i64 (-1), .int .i64 df, .int .i64 ok, .slice a8 sub.len cap8] 43)).heap.size = wr.heap.size + 1 := by simp
      have HS := Lib.hid (spHas kk fr to nu (-1) df ok (.slice a8 sub.len cap8) ver (wr.heap.size + 1) (wr.alloc (.cells #[.int .i64 kk, .int .i64 fr, .int .i64 to, .int .i64 nu, .int .i64 (-1), .int .i64 df, .int .i64 ok, .slice a8 sub.len cap8] 43)) (by omega))
      have Z := Lib.hid (And.intro hsubF (And.intro L.next (And.intro hsub (And.intro ho1 (And.intro ho3 (And.intro hT (And.intro hF (And.intro hb5 (And.intro hs5 hown)))))))))
      clear hsubF L hsub ho1 ho2 ho3 hT hF hb5 hs5 htags htagr hrest hne hf hU
      cases hhas : pHas fr to ver
      · rw [hhas] at HS
        rw [pFields_skip hhas] at hX
        clear hhas
        go_wp2_with fail
        refine HS.out.mono ?_
        rintro e w6 ⟨rfl, hb6⟩
        obtain ⟨hsubF, Ln, hsub, ho1, ho3, hT, hF, hb5, hs5, hown⟩ := Z.out
        have hb7 : Below wr.heap.size wr w6 := hb5.trans (hb6.mono (by omega))
        have hfin : ∃ k' gs X', Value.int .i64 ((k : Int) + 1) = .int .i64 (k' : Nat) ∧ Own (w.heap.size + 1) w6 u9 X' ∧ X' ++ pFields ver flex gs k' t = pFields ver flex fs 0 t ∧ Left B w (some ⟨p, q, none⟩) n k' gs ∧ SubsAll gs ∧ gs.noOpt ∧ Below (w.heap.size + 1) w2 w6 :=
          ⟨k + 1, rest, X, rfl, hown.stay hb7 (Nat.le_refl _), hX, Ln, hsub.2, ho3, hbk.trans (hb7.mono hww)⟩
        have FIN := Lib.hid hfin
        clear hfin hsubF Ln hsub ho1 ho3 hT hF hb5 hs5 hown hb6 hb7
        go_wp2
        go_roundw
        case rel => exact FIN.out
        case measure => simp [intOf]; omega
      · rw [hhas] at HS
        rw [pFields_take hhas] at hX
        clear hhas
        go_wp2_with fail
        refine HS.out.mono ?_
        rintro e w6 ⟨rfl, hb6⟩
        obtain ⟨hsubF, Ln, hsub, ho1, ho3, hT, hF, hb5, hs5, hown⟩ := Z.out
        have hb7 : Below wr.heap.size wr w6 := hb5.trans (hb6.mono (by omega))
        have hs6 : wr.heap.size + 1 ≤ w6.heap.size := by have := hb6.size; omega
        have FC := Lib.hid (spField kk fr to nu (-1) df ok sub ver flex (atT t k) ho1 hsub.1)
        have hlX : X.length + (pField ver flex kk nu ok (pPart ver flex sub) (atT t k)).length ≤ lim := by
          have e := congrArg List.length hX
          unfold pPart at hl
          simp only [List.length_append] at e hl
          omega
        have c : w6.drew.cell? ⟨w.heap.size, 0, none⟩ = some (.int .i64 t.n) ∧ w6.drew.cell? ⟨w.heap.size, 1, none⟩ = some (.slice sa t.s.length sc) ∧ w6.drew.cell? ⟨w.heap.size, 2, none⟩ = some (.bool t.null) ∧
            w6.drew.cell? ⟨w.heap.size, 3, none⟩ = some (.slice la t.l.length lc) ∧ w6.drew.cell? ⟨w.heap.size, 4, none⟩ = some (.slice ua t.u.length uc) ∧
            w6.drew.cell? ⟨wr.heap.size, 0, none⟩ = some (.int .i64 kk) ∧ w6.drew.cell? ⟨wr.heap.size, 1, none⟩ = some (.int .i64 fr) ∧ w6.drew.cell? ⟨wr.heap.size, 2, none⟩ = some (.int .i64 to) ∧ w6.drew.cell? ⟨wr.heap.size, 3, none⟩ = some (.int .i64 nu) ∧
            w6.drew.cell? ⟨wr.heap.size, 4, none⟩ = some (.int .i64 (-1)) ∧ w6.drew.cell? ⟨wr.heap.size, 5, none⟩ = some (.int .i64 df) ∧ w6.drew.cell? ⟨wr.heap.size, 6, none⟩ = some (.int .i64 ok) ∧ w6.drew.cell? ⟨wr.heap.size, 7, none⟩ = some (.slice a8 sub.len cap8) := by
          obtain ⟨t0, t1, t2, t3, t4⟩ := hT
          obtain ⟨f0, f1, f2, f3, f4, f5, f6, f7⟩ := hF
          have hP : ∀ i, w6.cell? ⟨w.heap.size, i, none⟩ = wr.cell? ⟨w.heap.size, i, none⟩ := fun i => hb7.cell (p := ⟨w.heap.size, i, none⟩) (by show w.heap.size < wr.heap.size; omega)
          have hQ := fun i => hb6.cell (p := ⟨wr.heap.size, i, none⟩) (by show wr.heap.size < wr.heap.size + 1; omega)
          exact ⟨(hP 0).trans t0, (hP 1).trans t1, (hP 2).trans t2, (hP 3).trans t3, (hP 4).trans t4, (hQ 0).trans f0, (hQ 1).trans f1, (hQ 2).trans f2, (hQ 3).trans f3, (hQ 4).trans f4, (hQ 5).trans f5, (hQ 6).trans f6, (hQ 7).trans f7⟩
        have D : ∀ n, Below n w6 w6.drew := fun n => (Below.refl n w6).drew
        have HT6 := Lib.hid (And.intro (ht.keep ((hbwr.trans (hb7.mono (by omega))).mono hB |>.trans (D _))) (hsubF.below ((hb7.mono (by omega)).trans (D B))))
        have hown6 := Lib.hid (And.intro ((hown.stay hb7 (Nat.le_refl _)).drew) (hown.lt))
        have hds : w6.drew.heap.size = w6.heap.size := rfl
        have hC := Lib.hid c
        have hB7 := Lib.hid (And.intro hb7 D)
        clear c D HS hT hF hb5 hb6 hb7 hown hsubF
        go_wp2_with fail
        go_region_held3 (fun w' => w'.cell? ⟨w.heap.size, 0, none⟩ = some (.int .i64 t.n) ∧ w'.cell? ⟨w.heap.size, 1, none⟩ = some (.slice sa t.s.length sc) ∧ w'.cell? ⟨w.heap.size, 2, none⟩ = some (.bool t.null) ∧
            w'.cell? ⟨w.heap.size, 3, none⟩ = some (.slice la t.l.length lc) ∧ w'.cell? ⟨w.heap.size, 4, none⟩ = some (.slice ua t.u.length uc) ∧
            w'.cell? ⟨wr.heap.size, 0, none⟩ = some (.int .i64 kk) ∧ w'.cell? ⟨wr.heap.size, 1, none⟩ = some (.int .i64 fr) ∧ w'.cell? ⟨wr.heap.size, 2, none⟩ = some (.int .i64 to) ∧ w'.cell? ⟨wr.heap.size, 3, none⟩ = some (.int .i64 nu) ∧
            w'.cell? ⟨wr.heap.size, 4, none⟩ = some (.int .i64 (-1)) ∧ w'.cell? ⟨wr.heap.size, 5, none⟩ = some (.int .i64 df) ∧ w'.cell? ⟨wr.heap.size, 6, none⟩ = some (.int .i64 ok) ∧ w'.cell? ⟨wr.heap.size, 7, none⟩ = some (.slice a8 sub.len cap8))
          (first
            | exact hC.out | exact hS7 | exact hS8 | exact hS9)
          (first
            | (go_at_call 33; refine (spAt t _ k B w6.drew.heap.size w6.drew (by omega) (Nat.le_refl _) HT6.out.1 (by omega)).mono ?_; rintro e w7 ⟨c7, rfl, ht7, hb8⟩; have hS7 := keep13c (fun i => hb8.cell (p := ⟨w.heap.size, i, none⟩) (by show w.heap.size < w6.heap.size; omega)) (fun i => hb8.cell (p := ⟨wr.heap.size, i, none⟩) (by show wr.heap.size < w6.heap.size; omega)) hC.out)
            | (go_at_call 32; refine (FC.out B w7.heap.size w7 _ c7 (by have := hb8.size; omega) (Nat.le_refl _) (HT6.out.2.below (hb8.mono (by omega))) ht7 (by omega)).mono ?_; rintro e w8 ⟨v8', rfl, hown8, hb9⟩; have hS8 := keep13c (fun i => hb9.cell (p := ⟨w.heap.size, i, none⟩) (by have := hb8.size; show w.heap.size < w7.heap.size; omega)) (fun i => hb9.cell (p := ⟨wr.heap.size, i, none⟩) (by have := hb8.size; show wr.heap.size < w7.heap.size; omega)) hS7)
            | (refine step_append_far bt rfl (.tmp 36) (.tmp 43) rfl (w.heap.size + 1) X ((hown6.out.1.stay hb8 (Nat.le_refl _)).stay hb9 (Nat.le_refl _)) (by have := hb8.size; have := hb9.size; omega) _ (Src.ofRL (B := w8.heap.size) Try.underlying28 (hown8.rl)) hlX ?_; intro v9 w9 hown9 hb10 hg10; have hS9 := keep13c (w := w8) (w' := w9) (p := w.heap.size) (b := wr.heap.size) (fun i => hb10.cell (p := ⟨w.heap.size, i, none⟩) (by show w.heap.size < w.heap.size + 1; omega)) (by have z8 := hb8.size; have z9 := hb9.size; intro i; refine World.cell?_of_block (a := ⟨wr.heap.size, i, none⟩) ?_; refine hg10 wr.heap.size (by omega) ?_; intro e; exact Nat.lt_irrefl _ (hown6.out.2 _ e).2) hS8))
        have hbfin : Below (w.heap.size + 1) wr w9 := (hB7.out.1.mono hww).trans ((hB7.out.2 _).trans ((hb8.mono (by omega)).trans ((hb9.mono (by have := hb8.size; omega)).trans hb10)))
        have hfin : ∃ k' gs X', Value.int .i64 ((k : Int) + 1) = .int .i64 (k' : Nat) ∧ Own (w.heap.size + 1) w9 v9 X' ∧ X' ++ pFields ver flex gs k' t = pFields ver flex fs 0 t ∧ Left B w (some ⟨p, q, none⟩) n k' gs ∧ SubsAll gs ∧ gs.noOpt ∧ Below (w.heap.size + 1) w2 w9 :=
          ⟨k + 1, rest, _, rfl, hown9, by rw [List.append_assoc]; exact hX, Ln, hsub.2, ho3, hbk.trans hbfin⟩
        have FIN := Lib.hid hfin
        clear hfin Ln hsub ho1 ho3 hbfin hown9 hb10 hg10 hb8 hb9 hown8
        go_wp2
        go_roundw
        case rel => exact FIN.out
        case measure => simp [intOf]; omega
end Go.Proofs.Ytkhpglongkhbjaa
