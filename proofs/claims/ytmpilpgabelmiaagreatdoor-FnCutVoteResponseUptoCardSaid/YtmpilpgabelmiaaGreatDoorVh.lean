/- Shared texts of these proofs, laid together by merge.py: Sph, Spi, Spk, Zf, Cd, Gv, Sz, Ot, Cu, Ag, Kra, Krb. -/
import Derived.Test.YtmpilpgabelmiaaGreatDoorVg
import Derived.Test.YtmpilpgabelmiaaGreatDoorVa
import Derived.OpenShut
import Derived.ProofKit
import Derived.Test.YtmpilpgabelmiaaGreatDoorVf
import Derived.Test.YtmpilpgabelmiaaGreatDoorVc
import Derived.Test.YtmpilpgabelmiaaGreatDoorRows
import Derived.StillTail
set_option linter.unusedVariables false
/- What the reference writes of a part. -/
namespace Go.Proofs.YtmpilpgabelmiaaGreatDoor
open Go Go.RowKit

/-- (Once: no part of it may be null; by now all are borne.) -/
def PFs.noOpt : PFs → Prop
  | .nil => True
  | .cons _ _ _ _ _ _ _ sub rest => True ∧ sub.noOpt ∧ rest.noOpt
/-- No unknown tags, to the bottom. -/
inductive NoU : Tree → Prop
  | mk (n : Int) (s : List UInt8) (null : Bool) (l : List Tree) (h : ∀ t, t ∈ l → NoU t) : NoU (.mk n s null l [])
theorem NoU.zero : NoU .zero := .mk 0 [] false [] (fun t h => by simp at h)
theorem NoU.u {t : Tree} (h : NoU t) : t.u = [] := by cases h; rfl
theorem NoU.mem {t t' : Tree} (h : NoU t) (hm : t' ∈ t.l) : NoU t' := by
  cases h with
  | mk n s null l h => exact h t' hm
theorem NoU.at {t : Tree} (h : NoU t) (i : Nat) : NoU (atT t i) := by
  unfold atT
  by_cases hi : i < t.l.length
  · rw [List.getD_eq_getElem?_getD, List.getElem?_eq_getElem hi]
    exact h.mem (List.getElem_mem hi)
  · rw [List.getD_eq_getElem?_getD, List.getElem?_eq_none (by omega)]
    exact .zero
/-- The function writes of fields what pPart says. -/
def PartAll (fs : PFs) : Prop := ∀ ver flex t, PartC fs ver flex t
/-- .. of those of all parts of fields. -/
def SubsAll : PFs → Prop
  | .nil => True
  | .cons _ _ _ _ _ _ _ sub rest => PartAll sub ∧ SubsAll rest

theorem spField (k fr to nu tg df ok : Int) (sub : PFs) (ver : Int) (flex : Bool) (t : Tree) (_ : True) (hp : PartAll sub) : FieldC k fr to nu tg df ok sub ver flex t := by
  by_cases hk : k = 11
  · subst hk
    cases hnl : pNull nu ver t
    · exact spFieldList_some fr to nu tg df ok sub ver flex t hnl fun t' _ => spValue ok sub false ver flex t' fun _ => hp ver flex t'
    · exact spFieldList_null fr to nu tg df ok sub ver flex t hnl
  · by_cases hn : k = 10 ∧ 0 ≤ nu
    · obtain ⟨rfl, hnu⟩ := hn
      cases hnl : pNull nu ver t
      · exact spFieldOpt_some fr to nu tg df ok sub ver flex t hnu hnl (hp ver flex t)
      · exact spFieldOpt_null fr to nu tg df ok sub ver flex t hnu hnl
    · exact spFieldVal k fr to nu tg df ok sub ver flex t hk hn (spValue k sub _ ver flex t fun _ => hp ver flex t)

theorem Left.start2 {B : Nat} {w : World} {fs : PFs} {a : Option Addr} {n cap : Nat} (h : RepF B w fs (.slice a n cap)) (ht : fs.noTag) :
    n ≤ 9223372036854775807 ∧ (n ≠ 0 → ∃ p q, a = some ⟨p, q, none⟩ ∧ p < B) ∧ Left B w a n 0 fs := by
  obtain ⟨rfl, h1, h2, h3⟩ := Left.start h ht
  refine ⟨h1, h2, ?_⟩
  cases fs with
  | nil => exact ⟨rfl, ht, fun _ _ _ => trivial⟩
  | cons => exact h3 (by simp [PFs.len])

theorem keep13 {n p b : Nat} {w w' : World} {v0 v1 v2 v3 v4 x0 x1 x2 x3 x4 x5 x6 x7 : Value} (hb : Below n w w') (hp : p < n) (hbb : b < n)
    (h : w.cell? ⟨p, 0, none⟩ = some v0 ∧ w.cell? ⟨p, 1, none⟩ = some v1 ∧ w.cell? ⟨p, 2, none⟩ = some v2 ∧ w.cell? ⟨p, 3, none⟩ = some v3 ∧ w.cell? ⟨p, 4, none⟩ = some v4 ∧
      w.cell? ⟨b, 0, none⟩ = some x0 ∧ w.cell? ⟨b, 1, none⟩ = some x1 ∧ w.cell? ⟨b, 2, none⟩ = some x2 ∧ w.cell? ⟨b, 3, none⟩ = some x3 ∧ w.cell? ⟨b, 4, none⟩ = some x4 ∧ w.cell? ⟨b, 5, none⟩ = some x5 ∧ w.cell? ⟨b, 6, none⟩ = some x6 ∧ w.cell? ⟨b, 7, none⟩ = some x7) :
    w'.cell? ⟨p, 0, none⟩ = some v0 ∧ w'.cell? ⟨p, 1, none⟩ = some v1 ∧ w'.cell? ⟨p, 2, none⟩ = some v2 ∧ w'.cell? ⟨p, 3, none⟩ = some v3 ∧ w'.cell? ⟨p, 4, none⟩ = some v4 ∧
      w'.cell? ⟨b, 0, none⟩ = some x0 ∧ w'.cell? ⟨b, 1, none⟩ = some x1 ∧ w'.cell? ⟨b, 2, none⟩ = some x2 ∧ w'.cell? ⟨b, 3, none⟩ = some x3 ∧ w'.cell? ⟨b, 4, none⟩ = some x4 ∧ w'.cell? ⟨b, 5, none⟩ = some x5 ∧ w'.cell? ⟨b, 6, none⟩ = some x6 ∧ w'.cell? ⟨b, 7, none⟩ = some x7 := by
  have hP : ∀ i, w'.cell? ⟨p, i, none⟩ = w.cell? ⟨p, i, none⟩ := fun i => hb.cell (p := ⟨p, i, none⟩) hp
  have hQ : ∀ i, w'.cell? ⟨b, i, none⟩ = w.cell? ⟨b, i, none⟩ := fun i => hb.cell (p := ⟨b, i, none⟩) hbb
  simp only [hP, hQ]
  exact h

theorem keep13c {p b : Nat} {w w' : World} {v0 v1 v2 v3 v4 x0 x1 x2 x3 x4 x5 x6 x7 : Value} (hP : ∀ i, w'.cell? ⟨p, i, none⟩ = w.cell? ⟨p, i, none⟩) (hQ : ∀ i, w'.cell? ⟨b, i, none⟩ = w.cell? ⟨b, i, none⟩)
    (h : w.cell? ⟨p, 0, none⟩ = some v0 ∧ w.cell? ⟨p, 1, none⟩ = some v1 ∧ w.cell? ⟨p, 2, none⟩ = some v2 ∧ w.cell? ⟨p, 3, none⟩ = some v3 ∧ w.cell? ⟨p, 4, none⟩ = some v4 ∧
      w.cell? ⟨b, 0, none⟩ = some x0 ∧ w.cell? ⟨b, 1, none⟩ = some x1 ∧ w.cell? ⟨b, 2, none⟩ = some x2 ∧ w.cell? ⟨b, 3, none⟩ = some x3 ∧ w.cell? ⟨b, 4, none⟩ = some x4 ∧ w.cell? ⟨b, 5, none⟩ = some x5 ∧ w.cell? ⟨b, 6, none⟩ = some x6 ∧ w.cell? ⟨b, 7, none⟩ = some x7) :
    w'.cell? ⟨p, 0, none⟩ = some v0 ∧ w'.cell? ⟨p, 1, none⟩ = some v1 ∧ w'.cell? ⟨p, 2, none⟩ = some v2 ∧ w'.cell? ⟨p, 3, none⟩ = some v3 ∧ w'.cell? ⟨p, 4, none⟩ = some v4 ∧
      w'.cell? ⟨b, 0, none⟩ = some x0 ∧ w'.cell? ⟨b, 1, none⟩ = some x1 ∧ w'.cell? ⟨b, 2, none⟩ = some x2 ∧ w'.cell? ⟨b, 3, none⟩ = some x3 ∧ w'.cell? ⟨b, 4, none⟩ = some x4 ∧ w'.cell? ⟨b, 5, none⟩ = some x5 ∧ w'.cell? ⟨b, 6, none⟩ = some x6 ∧ w'.cell? ⟨b, 7, none⟩ = some x7 := by
  simp only [hP, hQ]
  exact h
theorem step_append_far {P : Program} {w : World} {ops : Array Oper} {o : Oper} {a : Act} {K : Act → World → Prop} {Q : Exit → Act → World → Prop} {E : Prop} {t tx : TypeId} (T : BytesT P t 5) (hgd : o.guard = none) (s x : Operand)
    (ho : o.op = .call { callee := .builtin .append, args := #[s, x], argTypes := #[t, tx] }) (base : Nat) (bs : List UInt8) (hown : Own base w (a.eval s) bs) (hb : base ≤ w.heap.size)
    (bs' : List UInt8) (hsrc : Src P 1 tx (a.eval x) bs'.length (bs'.map byteV) w) (hl : bs.length + bs'.length ≤ lim)
    (h : ∀ v' w', Own base w' v' (bs ++ bs') → Below base w w' → (∀ g, g < w.heap.size → (a.eval s).ownBlock ≠ some g → w'.heap[g]? = w.heap[g]?) → K (a.put o.dst v') w') : if Region.wanted o (yielded ops a.tmps) = true then Oper.wp P o a w K Q else E := by
  have hw : Region.wanted o (yielded ops a.tmps) = true := by simp [Region.wanted, hgd]
  rw [if_pos hw]
  obtain ⟨i, hi, hz, hs, hby⟩ := T.info
  refine wp_append_src s x t tx ho base 5 i (.int .u8 0) 1 1 T.under hi hz hs hby rfl (a.eval s) bs.length (bs.map byteV) rfl hown _ bs'.length (bs'.map byteV) rfl hsrc (lim_max hl) (lim_room hl) hb ?_
  intro v' w' hown' hg _
  refine h v' w' ?_ ?_ (fun g hlt hne => hg.block g hlt (fun e => hne e.symm))
  · unfold Own
    simpa using hown'
  · exact (Below.refl _ _).grown hg hb (fun k hk => by
      have := hown.lt k hk
      omega)

theorem wpl_append_far {P : Program} {w : World} {ops : Array Oper} {rest : List Oper} {o : Oper} {a : Act} {Q : Exit → Act → World → Prop} {t tx : TypeId} (T : BytesT P t 5) (hgd : o.guard = none) (s x : Operand)
    (ho : o.op = .call { callee := .builtin .append, args := #[s, x], argTypes := #[t, tx] }) (base : Nat) (bs : List UInt8) (hown : Own base w (a.eval s) bs) (hb : base ≤ w.heap.size)
    (bs' : List UInt8) (hsrc : Src P 1 tx (a.eval x) bs'.length (bs'.map byteV) w) (hl : bs.length + bs'.length ≤ lim)
    (h : ∀ v' w', Own base w' v' (bs ++ bs') → Below base w w' → (∀ g, g < w.heap.size → (a.eval s).ownBlock ≠ some g → w'.heap[g]? = w.heap[g]?) → wpList P ops Q rest (a.put o.dst v') w') : wpList P ops Q (o :: rest) a w := by
  obtain ⟨i, hi, hz, hs, hby⟩ := T.info
  refine wpl_append_src hgd s x t tx ho base 5 i (.int .u8 0) 1 1 T.under hi hz hs hby rfl (a.eval s) bs.length (bs.map byteV) rfl hown _ bs'.length (bs'.map byteV) rfl hsrc (lim_max hl) (lim_room hl) hb ?_
  intro v' w' hown' hg _
  refine h v' w' ?_ ?_ (fun g hlt hne => hg.block g hlt (fun e => hne e.symm))
  · unfold Own
    simpa using hown'
  · exact (Below.refl _ _).grown hg hb (fun k hk => by
      have := hown.lt k hk
      omega)
theorem Own.apart {base : Nat} {w w' : World} {v : Value} {bs : List UInt8} (h : Own base w v bs) (hk : ∀ g, v.ownBlock = some g → w'.heap[g]? = w.heap[g]?) : Own base w' v bs := by
  refine ⟨h.1, ?_⟩
  rcases h.2 with hz | ⟨g, cap, cur, hv, hbg, hg, rest⟩
  · exact .inl hz
  · exact .inr ⟨g, cap, cur, hv, hbg, (hk g (by rw [hv]; rfl)).trans hg, rest⟩

theorem pFields_skip {ver : Int} {flex : Bool} {k fr to nu df ok : Int} {sub rest : PFs} {i : Nat} {t : Tree} (h : pHas fr to ver = false) : pFields ver flex (.cons k fr to nu (-1) df ok sub rest) i t = pFields ver flex rest (i + 1) t := by
  simp [pFields, h]
theorem pFields_take {ver : Int} {flex : Bool} {k fr to nu df ok : Int} {sub rest : PFs} {i : Nat} {t : Tree} (h : pHas fr to ver = true) :
    pFields ver flex (.cons k fr to nu (-1) df ok sub rest) i t = pField ver flex k nu ok (pPart ver flex sub) (atT t i) ++ pFields ver flex rest (i + 1) t := by
  simp only [pFields, h, Bool.and_true]
  rfl

set_option maxRecDepth 100000 in
set_option maxHeartbeats 6400000 in
theorem partOf (fs : PFs) (htag : fs.noTag) (hopt : fs.noOpt) (hsub : SubsAll fs) : PartAll fs := by
  intro ver flex t B base w fv c hB hb hf ht hl
  obtain ⟨fa, fcap, rfl, -⟩ := id hf
  obtain ⟨hmax, hne, L0⟩ := Left.start2 hf htag
  obtain ⟨n, hnn⟩ : ∃ n, fs.len = n := ⟨_, rfl⟩
  rw [hnn] at hmax hne L0 hf ⊢
  obtain ⟨sv, lv, uv, rfl, -, ⟨sa, sc, rfl, -⟩, ⟨la, lc, lf, rfl, -⟩, hU⟩ := ht.parts
  obtain ⟨ua, uc, rfl, -⟩ := id hU
  have hw2 := Blk.alloc_new w [.int .i64 t.n, .slice sa t.s.length sc, .bool t.null, .slice la t.l.length lc, .slice ua t.u.length uc] 26
  have hbw := (Below.refl base w).alloc hb (.cells #[.int .i64 t.n, .slice sa t.s.length sc, .bool t.null, .slice la t.l.length lc, .slice ua t.u.length uc] 26)
  have e1 : (w.alloc (.cells #[.int .i64 t.n, .slice sa t.s.length sc, .bool t.null, .slice la t.l.length lc, .slice ua t.u.length uc] 26)).heap.size = w.heap.size + 1 := by simp
  have H := Lib.hid (And.intro hw2 (And.intro hbw (And.intro e1 (And.intro hf (And.intro ht (And.intro hU (And.intro hne (And.intro L0 (And.intro hsub hopt)))))))))
  have HTAG := Lib.hid htag
  clear hw2 hbw e1 hf ht hU hne L0 hsub hopt htag
  go_enter Tryz.func23, Tryz.ntmps23
  go_wp2_with fail
  obtain ⟨w2, hw2e⟩ : ∃ w2, w2 = w.alloc (.cells #[.int .i64 t.n, .slice sa t.s.length sc, .bool t.null, .slice la t.l.length lc, .slice ua t.u.length uc] 26) := ⟨_, rfl⟩
  rw [← hw2e] at H ⊢
  clear hw2e
  go_loopw [9, 23] (fun v i wr => ∃ k gs X, i = .int .i64 (k : Nat) ∧ Own (w.heap.size + 1) wr v X ∧ X ++ pFields ver flex gs k t = pFields ver flex fs 0 t ∧ Left B w fa n k gs ∧ SubsAll gs ∧ gs.noOpt ∧ Below (w.heap.size + 1) w2 wr)
    (fun _ i _ => n - (intOf i).toNat)
  case atStart =>
    obtain ⟨hw2, hbw, e1, hf, ht, hU, hne, L0, hsub, hopt⟩ := H.out
    exact ⟨0, fs, [], rfl, Own.nil _ _, rfl, L0, hsub, hopt, Below.refl _ _⟩
  case round =>
    obtain ⟨k, gs, X, rfl, hown, hX, L, hsub, hopt, hbk⟩ := hrel
    obtain ⟨hw2, hbw, e1, hf, ht, hU, hne, -, -⟩ := H.out
    cases gs with
    | nil =>
      have hlen := L.len
      simp only [PFs.len, Nat.add_zero] at hlen
      subst hlen
      have hXe : X = pFields ver flex fs 0 t := by rw [← hX]; simp [pFields]
      have hww : w.heap.size + 1 ≤ wr.heap.size := by have := hbk.size; omega
      have hbwr : Below base w wr := hbw.trans (hbk.mono (by omega))
      clear hX L hsub hopt hne
      cases flex
      · have e : pPart ver false fs t = X := by rw [hXe]; simp [pPart, pTail]
        have R := Lib.hid (And.intro (show Own base wr u9 (pPart ver false fs t) by rw [e]; exact hown.mono (show base ≤ w.heap.size + 1 by omega)) hbwr)
        clear hbwr hown e hXe hw2 hbw e1 hf ht hU
        go_wp2
        go_ret
        exact .mk R.out.1 R.out.2
      · have uk2 := unk_len t.u
        obtain ⟨U, hUe⟩ : ∃ U, unk t.u = U := ⟨_, rfl⟩
        rw [hUe] at uk2
        have e : pPart ver true fs t = X ++ (uv U.length ++ U.flatMap pTag) := by rw [hXe]; simp only [pPart, pTail, if_true, hUe]
        have hlX : X.length + (uv U.length).length + (U.flatMap pTag).length ≤ lim := by
          rw [e, List.length_append, List.length_append] at hl
          omega
        have E := Lib.hid e
        clear e
        have K := Lib.hid (spKnown0 fs HTAG.out (.slice fa k fcap) B wr.heap.size wr (by omega) (Nat.le_refl _) (hf.below (hbwr.mono hB)))
        have R := Lib.hid (And.intro hown (And.intro hbwr (And.intro hf (And.intro hU (hw2.below hbk (by omega))))))
        clear hbwr hown hXe hw2 hbw e1 hf ht hU
        go_wp2_with fail
        refine K.out.mono ?_
        rintro e w6 ⟨rfl, hb6⟩
        go_wp2_with fail
        refine wp_loop_rounds 1 ?_
        rw [rounds_succ]
        obtain ⟨hown, hbwr, hf, hU, hT⟩ := R.out
        have z6 := hb6.size
        obtain ⟨t0, t1, t2, t3, t4⟩ := boxT (hT.below hb6 (by omega))
        have UK := spUnknown fs HTAG.out (.slice fa k fcap) (.slice ua t.u.length uc) t.u B w6.heap.size w6 (by omega) (Nat.le_refl _) (hf.below ((hbwr.trans (hb6.mono (by omega))).mono hB)) (hU.below ((hbwr.trans (hb6.mono (by omega))).mono hB))
        rw [hUe] at UK
        have UK := Lib.hid UK
        have R6 := Lib.hid (And.intro (hown.stay hb6 (Nat.le_refl _)) (hbwr.trans (hb6.mono (by omega))))
        clear hown hbwr hf hU hT hb6
        go_wp2_with fail
        refine UK.out.mono ?_
        rintro e w7 ⟨v7, rfl, hR7, hb7⟩
        have z7 := hb7.size
        obtain ⟨va, vcap, rfl, -, hvc, hvr⟩ := id hR7
        have R7 := Lib.hid (And.intro hvr (And.intro (R6.out.1.stay hb7 (Nat.le_refl _)) (R6.out.2.trans (hb7.mono (by omega)))))
        clear hR7 hvr hb7 UK K
        go_wp2_with fail
        go_loopw [10, 11, 102] (fun tv mv i wq => ∃ j : Nat, i = .int .i64 (j : Nat) ∧ mv = .int .i64 (j : Nat) ∧ j ≤ U.length ∧ Own w7.heap.size wq tv ((U.take j).flatMap pTag) ∧ Below w7.heap.size w7 wq)
          (fun _ _ i _ => U.length - (intOf i).toNat)
        case atStart => exact ⟨0, rfl, rfl, Nat.zero_le _, Own.nil _ _, Below.refl _ _⟩
        case round =>
          obtain ⟨j, rfl, rfl, hj, hownt, hbq⟩ := hrel
          rename World => wq
          have zq := hbq.size
          by_cases hjl : j < U.length
          · have hkv : U[j]? = some U[j] := List.getElem?_eq_getElem hjl
            obtain ⟨p, q, rfl, hp, hc⟩ := R7.out.1 (by intro e; rw [e] at hjl; simp at hjl)
            obtain ⟨c0, hkey, x, c1, hx⟩ := hc j _ hkv
            obtain ⟨xa, xcap, rfl, -⟩ := id hx
            rw [Nat.mul_comm 2 j] at c0 c1
            have d0 := (hbq.cell (p := ⟨p, q + j * 2, none⟩) hp).trans c0
            have d1 := (hbq.cell (p := ⟨p, q + j * 2 + 1, none⟩) hp).trans c1
            have hx1 := hx.below hbq
            have hkl : ((U.take (j + 1)).flatMap pTag).length ≤ (U.flatMap pTag).length := by
              conv => rhs; rw [← List.take_append_drop (j + 1) U]
              rw [List.flatMap_append, List.length_append]
              omega
            have htk : (U.take (j + 1)).flatMap pTag = (U.take j).flatMap pTag ++ (uv U[j].1 ++ uv (whole U[j].2).length ++ whole U[j].2) := by
              rw [List.take_add_one, hkv, List.flatMap_append]
              simp only [Option.toList_some, List.flatMap_cons, List.flatMap_nil, List.append_nil, pTag]
            have hwl : (whole U[j].2).length ≤ 32767 := by unfold whole; rw [List.length_take]; omega
            rw [htk] at hkl
            simp only [List.length_append] at hkl
            obtain ⟨ky, hky⟩ : ∃ ky, U[j].1 = ky := ⟨_, rfl⟩
            obtain ⟨sb, hsb⟩ : ∃ sb, U[j].2 = sb := ⟨_, rfl⟩
            rw [hky] at d0 hkey htk hkl
            rw [hsb] at d1 hx1 htk hkl hwl
            have hbw := fun o => (Below.refl wq.heap.size wq).alloc (Nat.le_refl _) o
            have HK := Lib.hid (And.intro hownt (And.intro hbq (And.intro hx1 htk)))
            clear hownt hbq hx hx1 htk c0 c1 hc
            go_wp2_with fail
            obtain ⟨wA, hwA⟩ : ∃ wA, wA = wq.alloc (.cells #[.int .u32 (ky : Int), .slice xa sb.length xcap] 68) := ⟨_, rfl⟩
            have bA : Below wq.heap.size wq wA := by rw [hwA]; exact hbw _
            have y0 : wA.cell? ⟨wq.heap.size, 0, none⟩ = some (.int .u32 (ky : Int)) := by rw [hwA]; exact (Blk.alloc_new wq [.int .u32 (ky : Int), .slice xa sb.length xcap] 68).cell_some (i := 0) rfl
            have y1 : wA.cell? ⟨wq.heap.size, 1, none⟩ = some (.slice xa sb.length xcap) := by rw [hwA]; exact (Blk.alloc_new wq [.int .u32 (ky : Int), .slice xa sb.length xcap] 68).cell_some (i := 1) rfl
            have zA : wA.heap.size = wq.heap.size + 1 := by rw [hwA]; simp
            rw [← hwA]
            clear hwA hbw
            refine (spWhole sb _ w7.heap.size wA (HK.out.2.2.1.below (bA.mono (by omega)))).mono ?_
            rintro e w' ⟨v', rfl, hv', rfl⟩
            obtain ⟨wa, wc, rfl, -⟩ := id hv'
            have HV := Lib.hid (And.intro hv' (HK.out.1.stay bA (Nat.le_refl _)))
            have hky2 : ((ky : Nat) : Int) ≤ 4294967295 := by omega
            have hwl2 : (((whole sb).length : Nat) : Int) ≤ 32767 := by omega
            clear hv' d0 d1
            go_wp2_with fail
            refine (spUvarint ky hkey wA.heap.size wA (Nat.le_refl _)).mono ?_
            rintro e wB ⟨x1, rfl, ho1, hb1⟩
            have zB := hb1.size
            go_wp2_with (at_builtin; refine halted ?_)
            refine wpl_append_from bt rfl _ _ rfl w7.heap.size _ (HV.out.2.stay hb1 (Nat.le_refl _)) (by omega) (uv ky) (Src.ofRL (B := wB.heap.size) Tryz.underlying22 ho1.rl) (by omega) ?_
            intro v2 w2 hown2 hb2
            have z2 := hb2.size
            clear ho1
            go_wp2_with fail
            refine (spUvarint (whole sb).length (by omega) w2.heap.size w2 (Nat.le_refl _)).mono ?_
            rintro e wC ⟨x3, rfl, ho3, hb3⟩
            have zC := hb3.size
            go_wp2_with (at_builtin; refine halted ?_)
            refine wpl_append_from bt rfl _ _ rfl w7.heap.size _ (hown2.stay hb3 (Nat.le_refl _)) (by omega) (uv (whole sb).length) (Src.ofRL (B := wC.heap.size) Tryz.underlying22 ho3.rl) (by rw [List.length_append]; omega) ?_
            intro v4 w4 hown4 hb4
            have z4 := hb4.size
            clear ho3 hown2
            have b14 : Below w7.heap.size wA w4 := (hb1.mono (by omega)).trans (hb2.trans ((hb3.mono (by omega)).trans hb4))
            go_wp2_with (at_builtin; refine halted ?_)
            refine wpl_append_from bt rfl _ _ rfl w7.heap.size _ hown4 (by omega) (whole sb) (Src.ofRL (B := w7.heap.size) Tryz.underlying22 (HV.out.1.below b14)) (by rw [List.length_append, List.length_append]; omega) ?_
            intro v5 w5 hown5 hb5
            have FIN := Lib.hid (show ∃ j' : Nat, Value.int .i64 ((j : Int) + 1) = .int .i64 (j' : Nat) ∧ Value.int .i64 ((j : Int) + 1) = .int .i64 (j' : Nat) ∧ j' ≤ U.length ∧ Own w7.heap.size w5 v5 ((U.take j').flatMap pTag) ∧ Below w7.heap.size w7 w5 from
              ⟨j + 1, by go_num, by go_num, by omega, by rw [HK.out.2.2.2]; simpa only [List.append_assoc] using hown5, HK.out.2.1.trans ((bA.mono (by omega)).trans (b14.trans hb5))⟩)
            clear hown5 hown4 hb1 hb2 hb3 hb4 hb5 b14 bA y0 y1 HV
            go_wp2
            go_roundw
            case rel => exact FIN.out
            case measure => simp [intOf]; omega
          · obtain rfl : j = U.length := by omega
            rw [List.take_of_length_le (Nat.le_refl _)] at hownt
            have RQ := Lib.hid (And.intro hownt (And.intro hbq (And.intro (R7.out.2.1.stay hbq (Nat.le_refl _)) (R7.out.2.2.trans (hbq.mono (by omega))))))
            clear hownt hbq
            go_wp2_with fail
            refine (spUvarint U.length (by omega) wq.heap.size wq (Nat.le_refl _)).mono ?_
            rintro e w8 ⟨v8, rfl, hown8, hb8⟩
            have z8 := hb8.size
            go_wp2_with (at_builtin; refine halted ?_)
            refine wpl_append_far bt rfl _ _ rfl (w.heap.size + 1) X (RQ.out.2.2.1.stay hb8 (Nat.le_refl _)) (by omega) (uv U.length) (Src.ofRL (B := w8.heap.size) Tryz.underlying22 hown8.rl) (by omega) ?_
            intro v9 w9 hown9 hb9 hg9
            have ht8 := RQ.out.1.stay hb8 (Nat.le_refl _)
            have ht9 := ht8.apart (w' := w9) (fun g hg => hg9 g (ht8.lt g hg).2 (fun e => by have h1 := R7.out.2.1.lt g e; have h2 := ht8.lt g hg; omega))
            have z9 := hb9.size
            go_wp2_with (at_builtin; refine halted ?_)
            refine wpl_append_from bt rfl _ _ rfl (w.heap.size + 1) _ hown9 (by omega) (U.flatMap pTag) (Src.ofRL (B := w9.heap.size) Tryz.underlying22 ht9.rl) (by rw [List.length_append]; omega) ?_
            intro v10 w10 hown10 hb10
            rw [List.append_assoc] at hown10
            have F := Lib.hid (And.intro (show Own base w10 v10 (pPart ver true fs t) by rw [E.out]; exact hown10.mono (show base ≤ w.heap.size + 1 by omega)) (((RQ.out.2.2.2).trans (hb8.mono (by omega))).trans ((hb9.mono (by omega)).trans (hb10.mono (by omega)))))
            clear hown10 hown9 hown8 hb8 hb9 hb10 R6 hg9 ht8 ht9
            go_wp2
            go_ret
            exact .mk F.out.1 F.out.2
    | cons kk fr to nu tg df ok sub rest =>
      have hlen := L.len
      simp only [PFs.len] at hlen
      have hkn : k < n := by omega
      obtain ⟨p, q, rfl, hp⟩ := hne (by omega)
      have hbwr : Below base w wr := hbw.trans (hbk.mono (by omega))
      obtain ⟨⟨h1, h2, h3, h4, h5, h6, h7⟩, ⟨v8, h8, a8, cap8, rfl, hf8⟩, hrest⟩ := (L.cells p q rfl).below (hbwr.mono hB) hp
      have hsubF : RepF B wr sub (.slice a8 sub.len cap8) := ⟨a8, cap8, rfl, hf8⟩
      obtain ⟨rfl, htags, htagr⟩ := L.noTag
      obtain ⟨ho1, ho2, ho3⟩ := hopt
      have hpw : p < wr.heap.size := by have := hbwr.size; omega
      have hww : w.heap.size + 1 ≤ wr.heap.size := by have := hbk.size; omega
      have hT := boxT (hw2.below hbk (by omega))
      have hF := boxF (Blk.alloc_new wr [.int .i64 kk, .int .i64 fr, .int .i64 to, .int .i64 nu, .int .i64 (-1), .int .i64 df, .int .i64 ok, .slice a8 sub.len cap8] 45)
      have hb5 := (Below.refl wr.heap.size wr).alloc (Nat.le_refl _) (.cells #[.int .i64 kk, .int .i64 fr, .int .i64 to, .int .i64 nu, .int .i64 (-1), .int .i64 df, .int .i64 ok, .slice a8 sub.len cap8] 45)
      have hs5 : (wr.alloc (.cells #[.int .i64 kk, .int .i64 fr, .int .i64 to, .int .i64 nu, .int .i64 (-1), .int .i64 df, .int .i64 ok, .slice a8 sub.len cap8] 45)).heap.size = wr.heap.size + 1 := by simp
      have HS := Lib.hid (spHas kk fr to nu (-1) df ok (.slice a8 sub.len cap8) ver (wr.heap.size + 1) (wr.alloc (.cells #[.int .i64 kk, .int .i64 fr, .int .i64 to, .int .i64 nu, .int .i64 (-1), .int .i64 df, .int .i64 ok, .slice a8 sub.len cap8] 45)) (by omega))
      have Z := Lib.hid (And.intro hsubF (And.intro L.next (And.intro hsub (And.intro ho1 (And.intro ho3 (And.intro hT (And.intro hF (And.intro hb5 (And.intro hs5 hown)))))))))
      clear hsubF L hsub ho1 ho2 ho3 hT hF hb5 hs5 htags htagr hrest hne hf hU
      cases hhas : pHas fr to ver
      · rw [hhas] at HS
        rw [pFields_skip hhas] at hX
        clear hhas
        go_wp2_with fail
        refine HS.out.mono ?_
        rintro e w6 ⟨rfl, hb6⟩
        obtain ⟨hsubF, Ln, hsub, ho1, ho3, hT, hF, hb5, hs5, hown⟩ := Z.out
        have hb7 : Below wr.heap.size wr w6 := hb5.trans (hb6.mono (by omega))
        have hfin : ∃ k' gs X', Value.int .i64 ((k : Int) + 1) = .int .i64 (k' : Nat) ∧ Own (w.heap.size + 1) w6 u9 X' ∧ X' ++ pFields ver flex gs k' t = pFields ver flex fs 0 t ∧ Left B w (some ⟨p, q, none⟩) n k' gs ∧ SubsAll gs ∧ gs.noOpt ∧ Below (w.heap.size + 1) w2 w6 :=
          ⟨k + 1, rest, X, rfl, hown.stay hb7 (Nat.le_refl _), hX, Ln, hsub.2, ho3, hbk.trans (hb7.mono hww)⟩
        have FIN := Lib.hid hfin
        clear hfin hsubF Ln hsub ho1 ho3 hT hF hb5 hs5 hown hb6 hb7
        go_wp2
        go_roundw
        case rel => exact FIN.out
        case measure => simp [intOf]; omega
      · rw [hhas] at HS
        rw [pFields_take hhas] at hX
        clear hhas
        go_wp2_with fail
        refine HS.out.mono ?_
        rintro e w6 ⟨rfl, hb6⟩
        obtain ⟨hsubF, Ln, hsub, ho1, ho3, hT, hF, hb5, hs5, hown⟩ := Z.out
        have hb7 : Below wr.heap.size wr w6 := hb5.trans (hb6.mono (by omega))
        have hs6 : wr.heap.size + 1 ≤ w6.heap.size := by have := hb6.size; omega
        have FC := Lib.hid (spField kk fr to nu (-1) df ok sub ver flex (atT t k) ho1 hsub.1)
        have hlX : X.length + (pField ver flex kk nu ok (pPart ver flex sub) (atT t k)).length ≤ lim := by
          have e := congrArg List.length hX
          unfold pPart at hl
          simp only [List.length_append] at e hl
          omega
        have c : w6.drew.cell? ⟨w.heap.size, 0, none⟩ = some (.int .i64 t.n) ∧ w6.drew.cell? ⟨w.heap.size, 1, none⟩ = some (.slice sa t.s.length sc) ∧ w6.drew.cell? ⟨w.heap.size, 2, none⟩ = some (.bool t.null) ∧
            w6.drew.cell? ⟨w.heap.size, 3, none⟩ = some (.slice la t.l.length lc) ∧ w6.drew.cell? ⟨w.heap.size, 4, none⟩ = some (.slice ua t.u.length uc) ∧
            w6.drew.cell? ⟨wr.heap.size, 0, none⟩ = some (.int .i64 kk) ∧ w6.drew.cell? ⟨wr.heap.size, 1, none⟩ = some (.int .i64 fr) ∧ w6.drew.cell? ⟨wr.heap.size, 2, none⟩ = some (.int .i64 to) ∧ w6.drew.cell? ⟨wr.heap.size, 3, none⟩ = some (.int .i64 nu) ∧
            w6.drew.cell? ⟨wr.heap.size, 4, none⟩ = some (.int .i64 (-1)) ∧ w6.drew.cell? ⟨wr.heap.size, 5, none⟩ = some (.int .i64 df) ∧ w6.drew.cell? ⟨wr.heap.size, 6, none⟩ = some (.int .i64 ok) ∧ w6.drew.cell? ⟨wr.heap.size, 7, none⟩ = some (.slice a8 sub.len cap8) := by
          obtain ⟨t0, t1, t2, t3, t4⟩ := hT
          obtain ⟨f0, f1, f2, f3, f4, f5, f6, f7⟩ := hF
          have hP : ∀ i, w6.cell? ⟨w.heap.size, i, none⟩ = wr.cell? ⟨w.heap.size, i, none⟩ := fun i => hb7.cell (p := ⟨w.heap.size, i, none⟩) (by show w.heap.size < wr.heap.size; omega)
          have hQ := fun i => hb6.cell (p := ⟨wr.heap.size, i, none⟩) (by show wr.heap.size < wr.heap.size + 1; omega)
          exact ⟨(hP 0).trans t0, (hP 1).trans t1, (hP 2).trans t2, (hP 3).trans t3, (hP 4).trans t4, (hQ 0).trans f0, (hQ 1).trans f1, (hQ 2).trans f2, (hQ 3).trans f3, (hQ 4).trans f4, (hQ 5).trans f5, (hQ 6).trans f6, (hQ 7).trans f7⟩
        have D : ∀ n, Below n w6 w6.drew := fun n => (Below.refl n w6).drew
        have HT6 := Lib.hid (And.intro (ht.keep ((hbwr.trans (hb7.mono (by omega))).mono hB |>.trans (D _))) (hsubF.below ((hb7.mono (by omega)).trans (D B))))
        have hown6 := Lib.hid (And.intro ((hown.stay hb7 (Nat.le_refl _)).drew) (hown.lt))
        have hds : w6.drew.heap.size = w6.heap.size := rfl
        have hC := Lib.hid c
        have hB7 := Lib.hid (And.intro hb7 D)
        clear c D HS hT hF hb5 hb6 hb7 hown hsubF
        go_wp2_with fail
        go_region_held3 (fun w' => w'.cell? ⟨w.heap.size, 0, none⟩ = some (.int .i64 t.n) ∧ w'.cell? ⟨w.heap.size, 1, none⟩ = some (.slice sa t.s.length sc) ∧ w'.cell? ⟨w.heap.size, 2, none⟩ = some (.bool t.null) ∧
            w'.cell? ⟨w.heap.size, 3, none⟩ = some (.slice la t.l.length lc) ∧ w'.cell? ⟨w.heap.size, 4, none⟩ = some (.slice ua t.u.length uc) ∧
            w'.cell? ⟨wr.heap.size, 0, none⟩ = some (.int .i64 kk) ∧ w'.cell? ⟨wr.heap.size, 1, none⟩ = some (.int .i64 fr) ∧ w'.cell? ⟨wr.heap.size, 2, none⟩ = some (.int .i64 to) ∧ w'.cell? ⟨wr.heap.size, 3, none⟩ = some (.int .i64 nu) ∧
            w'.cell? ⟨wr.heap.size, 4, none⟩ = some (.int .i64 (-1)) ∧ w'.cell? ⟨wr.heap.size, 5, none⟩ = some (.int .i64 df) ∧ w'.cell? ⟨wr.heap.size, 6, none⟩ = some (.int .i64 ok) ∧ w'.cell? ⟨wr.heap.size, 7, none⟩ = some (.slice a8 sub.len cap8))
          (first
            | exact hC.out | exact hS7 | exact hS8 | exact hS9)
          (first
            | (go_at_call 48; refine (spAt t _ k B w6.drew.heap.size w6.drew (by omega) (Nat.le_refl _) HT6.out.1 (by omega)).mono ?_; rintro e w7 ⟨c7, rfl, ht7, hb8⟩; have hS7 := keep13c (fun i => hb8.cell (p := ⟨w.heap.size, i, none⟩) (by show w.heap.size < w6.heap.size; omega)) (fun i => hb8.cell (p := ⟨wr.heap.size, i, none⟩) (by show wr.heap.size < w6.heap.size; omega)) hC.out)
            | (go_at_call 47; refine (FC.out B w7.heap.size w7 _ c7 (by have := hb8.size; omega) (Nat.le_refl _) (HT6.out.2.below (hb8.mono (by omega))) ht7 (by omega)).mono ?_; rintro e w8 ⟨v8', rfl, hown8, hb9⟩; have hS8 := keep13c (fun i => hb9.cell (p := ⟨w.heap.size, i, none⟩) (by have := hb8.size; show w.heap.size < w7.heap.size; omega)) (fun i => hb9.cell (p := ⟨wr.heap.size, i, none⟩) (by have := hb8.size; show wr.heap.size < w7.heap.size; omega)) hS7)
            | (refine step_append_far bt rfl (.tmp 36) (.tmp 43) rfl (w.heap.size + 1) X ((hown6.out.1.stay hb8 (Nat.le_refl _)).stay hb9 (Nat.le_refl _)) (by have := hb8.size; have := hb9.size; omega) _ (Src.ofRL (B := w8.heap.size) Tryz.underlying22 (hown8.rl)) hlX ?_; intro v9 w9 hown9 hb10 hg10; have hS9 := keep13c (w := w8) (w' := w9) (p := w.heap.size) (b := wr.heap.size) (fun i => hb10.cell (p := ⟨w.heap.size, i, none⟩) (by show w.heap.size < w.heap.size + 1; omega)) (by have z8 := hb8.size; have z9 := hb9.size; intro i; refine World.cell?_of_block (a := ⟨wr.heap.size, i, none⟩) ?_; refine hg10 wr.heap.size (by omega) ?_; intro e; exact Nat.lt_irrefl _ (hown6.out.2 _ e).2) hS8))
        have hbfin : Below (w.heap.size + 1) wr w9 := (hB7.out.1.mono hww).trans ((hB7.out.2 _).trans ((hb8.mono (by omega)).trans ((hb9.mono (by have := hb8.size; omega)).trans hb10)))
        have hfin : ∃ k' gs X', Value.int .i64 ((k : Int) + 1) = .int .i64 (k' : Nat) ∧ Own (w.heap.size + 1) w9 v9 X' ∧ X' ++ pFields ver flex gs k' t = pFields ver flex fs 0 t ∧ Left B w (some ⟨p, q, none⟩) n k' gs ∧ SubsAll gs ∧ gs.noOpt ∧ Below (w.heap.size + 1) w2 w9 :=
          ⟨k + 1, rest, _, rfl, hown9, by rw [List.append_assoc]; exact hX, Ln, hsub.2, ho3, hbk.trans hbfin⟩
        have FIN := Lib.hid hfin
        clear hfin Ln hsub ho1 ho3 hbfin hown9 hb10 hg10 hb8 hb9 hown8
        go_wp2
        go_roundw
        case rel => exact FIN.out
        case measure => simp [intOf]; omega
end Go.Proofs.YtmpilpgabelmiaaGreatDoor

/- The reference's Write, Same; the law's version. -/
namespace Go.Proofs.YtmpilpgabelmiaaGreatDoor
open Go Go.RowKit
set_option linter.unusedVariables false

mutual
theorem partAll : ∀ fs : PFs, fs.noTag → fs.noOpt → PartAll fs
  | .nil, h, h' => partOf .nil h h' trivial
  | .cons k fr to nu tg df ok sub rest, h, h' => partOf (.cons k fr to nu tg df ok sub rest) h h' ⟨partAll sub h.2.1 h'.2.1, subsAll rest h.2.2 h'.2.2⟩
theorem subsAll : ∀ fs : PFs, fs.noTag → fs.noOpt → SubsAll fs
  | .nil, _, _ => trivial
  | .cons _ _ _ _ _ _ _ sub rest, h, h' => ⟨partAll sub h.2.1 h'.2.1, subsAll rest h.2.2 h'.2.2⟩
end

set_option maxRecDepth 100000 in
set_option maxHeartbeats 1600000 in
theorem spWrite (fs : PFs) (htag : fs.noTag) (hopt : fs.noOpt) (ver fl : Int) (t : Tree) (flex : Bool) (hfl : flex = (decide (0 ≤ fl) && decide (fl ≤ ver))) (B base : Nat) (w : World) (fv : Value) (c : List Value) (hB : B ≤ base) (hb : base ≤ w.heap.size)
    (hf : RepF B w fs fv) (ht : RepT B w c t) (hl : (pPart ver flex fs t).length ≤ lim) :
    Gives Tryz.prog 11 #[.agg #[fv, .int .i64 fl], .int .i64 ver, .agg c.toArray] w base (pPart ver flex fs t) := by
  obtain ⟨sv, lv, uv, rfl, -, ⟨sa, sc, rfl, -⟩, ⟨la, lc, lf, rfl, -⟩, ⟨ua, uc, rfl, -⟩⟩ := ht.parts
  obtain ⟨fa, fcap, rfl, -⟩ := id hf
  have hb1 := fun o => (Below.refl base w).alloc hb o
  have hb2 := fun o o' => (hb1 o).alloc (Nat.le_trans hb (by simp)) o'
  have P := Lib.hid (fun w' (h : Below base w w') => partAll fs htag hopt ver flex t B base w' (.slice fa fs.len fcap) _ hB (Nat.le_trans hb h.size) (hf.below (h.mono hB)) (ht.keep (h.mono hB)) hl)
  clear hf ht hl
  by_cases h0 : 0 ≤ fl <;> by_cases h1 : fl ≤ ver <;> simp [h0, h1] at hfl <;> subst hfl <;>
  · go_enter Tryz.func11, Tryz.ntmps11
    go_wp2_with fail
    refine (P.out _ (hb2 _ _)).mono ?_
    rintro e w' ⟨v', rfl, hown, hbel⟩
    go_wp2
    go_ret
    exact .mk hown ((hb2 _ _).trans hbel)

set_option maxRecDepth 100000 in
set_option maxHeartbeats 1600000 in
theorem spSame (bs : List UInt8) (x y : Value) (B base : Nat) (w : World) (hb : base ≤ w.heap.size) (hx : RL B w x bs) (hy : RL B w y bs) (hBw : B ≤ base) : Says Tryz.prog 9 #[x, y] w base (.bool true) := by
  obtain ⟨a, cap, rfl, h1, h2, h3⟩ := hx
  obtain ⟨a', cap', rfl, h1', h2', h3'⟩ := hy
  by_cases hne : bs = []
  · subst hne
    clear h3 h3'
    go_enter Tryz.func9, Tryz.ntmps9
    go_wp2_with fail
    refine wp_loop_rounds 1 ?_
    rw [rounds_succ]
    go_wp2
    go_ret
    exact ⟨rfl, Below.refl _ _⟩
  obtain ⟨p, q, rfl, hp, hc⟩ := h3 hne
  obtain ⟨p', q', rfl, hp', hc'⟩ := h3' hne
  have H := Lib.hid (And.intro hc hc')
  clear hc hc' h3 h3' hne
  obtain ⟨n, hn⟩ : ∃ n, bs.length = n := ⟨_, rfl⟩
  rw [hn] at h1 h1' ⊢
  go_enter Tryz.func9, Tryz.ntmps9
  go_wp2_with fail
  go_loopw [13] (fun i wr => ∃ k : Nat, k ≤ n ∧ i = .int .i64 k ∧ Below base w wr) (fun i _ => n - (intOf i).toNat)
  case atStart => exact ⟨0, Nat.zero_le _, rfl, Below.refl _ _⟩
  case round =>
    obtain ⟨k, hk, rfl, hbk⟩ := hrel
    by_cases hkn : k < n
    · obtain ⟨u, hu⟩ : ∃ u, bs[k]? = some u := ⟨bs[k], List.getElem?_eq_getElem (by omega)⟩
      have c1 := (hbk.cell (p := ⟨p, q + k, none⟩) (by show p < base; omega)).trans (H.out.1 k u hu)
      have c2 := (hbk.cell (p := ⟨p', q' + k, none⟩) (by show p' < base; omega)).trans (H.out.2 k u hu)
      have FIN := Lib.hid hbk.drew
      clear hbk hu
      unfold byteV at c1 c2
      generalize (u.toNat : Int) = z at *
      go_wp2_with fail
      go_region_held3 (fun w' => w'.cell? ⟨p, q + k, none⟩ = some (.int .u8 z) ∧ w'.cell? ⟨p', q' + k, none⟩ = some (.int .u8 z)) (first | exact ⟨c1, c2⟩) (first | fail)
      go_wp2
      go_roundw
      case rel => exact ⟨k + 1, by omega, by go_num, FIN.out⟩
      case measure => simp [intOf]; omega
    · have : k = n := by omega
      subst this
      go_wp2
      go_ret
      exact ⟨rfl, hbk⟩

set_option maxHeartbeats 400000 in
theorem lawVersion (n most : Int) (h0 : 0 ≤ n) (h1 : n ≤ 255) (h2 : 0 ≤ most) (h3 : most ≤ 255) (w : World) : Calls Tryz.prog 13 #[.int .u8 n, .int .i64 most] w fun e w' => e = .returned (.int .i64 (n % (most + 1))) ∧ w = w' := by
  go_enter Tryz.func13, Tryz.ntmps13
  go_wp2
  go_ret
  exact ⟨rfl, rfl⟩
end Go.Proofs.YtmpilpgabelmiaaGreatDoor

/- Fields that are laid new; a message that is handed back. -/
namespace Go.Proofs.YtmpilpgabelmiaaGreatDoor
open Go Go.RowKit

theorem RepFC.mono {B B' : Nat} {w : World} (hB : B ≤ B') : ∀ {fs : PFs} {p q : Nat}, RepFC B w fs p q → RepFC B' w fs p q
  | .nil, _, _, _ => trivial
  | .cons _ _ _ _ _ _ _ sub rest, p, q, h => by
    obtain ⟨h1, ⟨v, h8, a, cap, h9, hle, h10⟩, h11⟩ := h
    refine ⟨h1, ⟨v, h8, a, cap, h9, hle, fun hn => ?_⟩, RepFC.mono hB h11⟩
    obtain ⟨p', q', ha, hp', hr⟩ := h10 hn
    exact ⟨p', q', ha, by omega, RepFC.mono hB hr⟩
theorem RepF.up {B : Nat} {w w' : World} {fs : PFs} {v : Value} (h : RepF B w fs v) (hk : Below B w w') (hB : B ≤ w'.heap.size) : RepF w'.heap.size w' fs v := by
  obtain ⟨a, cap, hv, hle, h⟩ := h.below hk
  refine ⟨a, cap, hv, hle, fun hn => ?_⟩
  obtain ⟨p, q, ha, hp, hr⟩ := h hn
  exact ⟨p, q, ha, by omega, hr.mono hB⟩
theorem RepF.upB {B B' : Nat} {w : World} {fs : PFs} {v : Value} (h : RepF B w fs v) (hB : B ≤ B') : RepF B' w fs v := by
  obtain ⟨a, cap, hv, hle, h⟩ := h
  refine ⟨a, cap, hv, hle, fun hn => ?_⟩
  obtain ⟨p, q, ha, hp, hr⟩ := h hn
  exact ⟨p, q, ha, by omega, hr.mono hB⟩
/-- Fields never lie in a block of two cells. -/
theorem RepFC.other {B g T i : Nat} {w : World} {c0 c1 v : Value} (hg : Blk w g [c0, c1] T) : ∀ {fs : PFs} {p q : Nat}, RepFC B w fs p q → RepFC B (w.setCell ⟨g, i, none⟩ v) fs p q
  | .nil, _, _, _ => trivial
  | .cons _ _ _ _ _ _ _ sub rest, p, q, h => by
    obtain ⟨⟨h1, h2, h3, h4, h5, h6, h7⟩, ⟨x, h8, a, cap, h9, hle, h10⟩, h11⟩ := h
    have hne : p ≠ g := by
      intro e
      subst e
      rw [hg.cell] at h8
      simp at h8
    have hc : ∀ j, (w.setCell ⟨g, i, none⟩ v).cell? ⟨p, j, none⟩ = w.cell? ⟨p, j, none⟩ := fun j => World.cell?_of_block (Below.heap_setCell _ _ _ _ hne)
    refine ⟨⟨(hc _).trans h1, (hc _).trans h2, (hc _).trans h3, (hc _).trans h4, (hc _).trans h5, (hc _).trans h6, (hc _).trans h7⟩, ⟨x, (hc _).trans h8, a, cap, h9, hle, fun hn => ?_⟩, RepFC.other hg h11⟩
    obtain ⟨p', q', ha, hp', hr⟩ := h10 hn
    exact ⟨p', q', ha, hp', RepFC.other hg hr⟩
theorem RepF.other {B g T i : Nat} {w : World} {c0 c1 v x : Value} {fs : PFs} (h : RepF B w fs x) (hg : Blk w g [c0, c1] T) : RepF B (w.setCell ⟨g, i, none⟩ v) fs x := by
  obtain ⟨a, cap, hv, hle, h⟩ := h
  refine ⟨a, cap, hv, hle, fun hn => ?_⟩
  obtain ⟨p, q, ha, hp, hr⟩ := h hn
  exact ⟨p, q, ha, hp, hr.other hg⟩
theorem msgUnder : ∃ fs, Tryz.prog.underlying 31 = some (.struct fs) := ⟨_, Tryz.underlying31⟩
theorem msgSize : (Tryz.prog.info? 31).map (·.size) = some 2 := by kernel_rfl
theorem ret_msg {fn : Func} {p : Tmp} {R : Ending → World → Prop} {a : Act} {w : World} {g : Nat} {c0 c1 : Value} (hr : fn.results = #[.cell p 31]) (hp : a.tmps.getD p undef = .pointer (some ⟨g, 0, none⟩))
    (hg : Blk w g [c0, c1] 31) (hd : a.defers = []) (h : R (.returned (.agg #[c0, c1])) w) : bodyPost Tryz.prog fn R .ret a w := by
  obtain ⟨fs, hu⟩ := msgUnder
  exact bodyPost_ret_by (results_cell_row hr _ _ g _ _ (0, 0) _ hp hg hu rfl (by rw [msgSize]; rfl)) hd h
/-- The function hands back these fields, laid new. -/
def GivesF (f : Nat) (fs : PFs) : Prop := ∀ w : World, Calls Tryz.prog f #[] w fun e w' => ∃ v, e = .returned v ∧ RepF w'.heap.size w' fs v ∧ Below w.heap.size w w'
/-- The function hands back this message. -/
def GivesM (f : Nat) (fs : PFs) (flex : Int) : Prop := ∀ w : World, Calls Tryz.prog f #[] w fun e w' => ∃ v, e = .returned (.agg #[v, .int .i64 flex]) ∧ RepF w'.heap.size w' fs v ∧ Below w.heap.size w w'
theorem uuid0 {O : List Nat} {w : World} {b T o : Nat} {c : List Value} (h : Blk w b c T) (hc : ∀ i, i < 16 → c[o + i]? = some (.int .u8 0)) (flex : Bool) : RepLeaf O w flex b o .uuid (.bytes (List.replicate 16 0)) := by
  refine ⟨rfl, fun i u hu => ?_⟩
  have hi : i < 16 := by simpa using (List.getElem?_eq_some_iff.1 hu).1
  have e : u = 0 := by
    rw [List.getElem?_replicate] at hu
    simp [hi] at hu
    exact hu.symm
  subst e
  exact h.cell_some (hc i hi)
theorem keep2 {n g : Nat} {w w' : World} {v0 v1 : Value} (hb : Below n w w') (hg : g < n) (h : w.cell? ⟨g, 0, none⟩ = some v0 ∧ w.cell? ⟨g, 1, none⟩ = some v1) : w'.cell? ⟨g, 0, none⟩ = some v0 ∧ w'.cell? ⟨g, 1, none⟩ = some v1 :=
  ⟨(hb.cell (p := ⟨g, 0, none⟩) hg).trans h.1, (hb.cell (p := ⟨g, 1, none⟩) hg).trans h.2⟩
theorem Below.grownW {w w' : World} (h : Below w.heap.size w w') (hf : ∀ a, w'.frozen? a = w.frozen? a) : Grown w w' := ⟨h.frame _, hf, h.size⟩
end Go.Proofs.YtmpilpgabelmiaaGreatDoor

/- The law's own tests of size: they answer, and turn nothing. -/
namespace Go.Proofs.YtmpilpgabelmiaaGreatDoor
open Go Go.RowKit
set_option linter.unusedVariables false

/-- An answer: true or false. -/
def Bo (e : Ending) : Prop := ∃ b, e = .returned (.bool b)
theorem Bo.mk (b : Bool) : Bo (.returned (.bool b)) := ⟨b, rfl⟩
/-- Function f answers true or false; below base nothing has turned. -/
def Asks (P : Program) (f : Nat) (args : Array Value) (w : World) (base : Nat) : Prop := Calls P f args w fun e w' => Bo e ∧ Below base w w'

set_option maxHeartbeats 800000 in
theorem zFits4 (k : Int) (a : Option Addr) (n cap : Nat) (base : Nat) (w : World) (hb : base ≤ w.heap.size) : Asks Tryz.prog 29 #[.agg #[.int .u32 k, .slice a n cap]] w base := by
  have hbel := (Below.refl base w).alloc hb
  by_cases h : (2147483647 : Int) < (n : Nat)
  · go_enter Tryz.func29, Tryz.ntmps29
    go_wp2
    go_ret
    exact ⟨.mk _, hbel _⟩
  · go_enter Tryz.func29, Tryz.ntmps29
    go_wp2
    go_ret
    exact ⟨.mk _, hbel _⟩
set_option maxHeartbeats 1600000 in
theorem zFits3 (u : List (Nat × List UInt8)) (uv : Value) (B base : Nat) (w : World) (hB : B ≤ base) (hb : base ≤ w.heap.size) (hu : RepU B w u uv) : Asks Tryz.prog 15 #[uv] w base := by
  obtain ⟨a, cap, rfl, h1, h2, hr⟩ := hu
  have H := Lib.hid hr
  clear hr
  obtain ⟨n, hn⟩ : ∃ n, u.length = n := ⟨_, rfl⟩
  rw [hn] at h1 ⊢
  by_cases hz : (2147483647 : Int) < (n : Nat)
  · go_enter Tryz.func15, Tryz.ntmps15
    go_wp2
    go_ret
    exact ⟨.mk _, Below.refl _ _⟩
  · have hz' : ((n : Nat) : Int) ≤ 2147483647 := by omega
    clear hz
    go_enter Tryz.func15, Tryz.ntmps15
    go_wp2_with fail
    go_loopw [10] (fun i wr => ∃ k : Nat, k ≤ n ∧ i = .int .i64 (k : Nat) ∧ Below base w wr) (fun i _ => n - (intOf i).toNat)
    case atStart => exact ⟨0, Nat.zero_le _, rfl, Below.refl _ _⟩
    case round =>
      obtain ⟨k, hk, rfl, hbk⟩ := hrel
      by_cases hkn : k < n
      · obtain ⟨kv, hkv⟩ : ∃ kv, u[k]? = some kv := ⟨u[k]'(by omega), List.getElem?_eq_getElem (by omega)⟩
        obtain ⟨p, q, rfl, hp, hc⟩ := H.out (by intro e; subst e; simp at hkv)
        obtain ⟨c0, hkey, x, c1, hx⟩ := hc k kv hkv
        obtain ⟨xa, xcap, rfl, -⟩ := id hx
        rw [Nat.mul_comm 2 k] at c0 c1
        have d0 := (hbk.cell (p := ⟨p, q + k * 2, none⟩) (by show p < base; omega)).trans c0
        have d1 := (hbk.cell (p := ⟨p, q + k * 2 + 1, none⟩) (by show p < base; omega)).trans c1
        have zs := hbk.size
        have hb2 := Lib.hid (hbk.alloc (Nat.le_trans hb hbk.size) (.cells #[.int .u32 (kv.1 : Int), .slice xa kv.2.length xcap] 68))
        have Z4 := Lib.hid (zFits4 kv.1 xa kv.2.length xcap (wr.heap.size) (wr.alloc (.cells #[.int .u32 (kv.1 : Int), .slice xa kv.2.length xcap] 68)) (by simp))
        clear hbk hx c0 c1 hc
        go_wp2_with fail
        refine Z4.out.mono ?_
        rintro e w' ⟨⟨b, rfl⟩, hb3⟩
        have FIN := Lib.hid (hb2.out.trans (hb3.mono (Nat.le_trans hb zs)))
        clear hb3
        cases b
        · go_wp2
          go_ret
          exact ⟨.mk _, FIN.out⟩
        · go_wp2
          go_roundw
          case rel => exact ⟨k + 1, by omega, by go_num, FIN.out⟩
          case measure => simp [intOf]; omega
      · obtain rfl : k = n := by omega
        go_wp2
        go_ret
        exact ⟨.mk _, hbk⟩
set_option maxHeartbeats 1600000 in
theorem zFits2 (t : Tree) (c : List Value) (B base : Nat) (w : World) (hB : B ≤ base) (hb : base ≤ w.heap.size) (ht : RepT B w c t) : Asks Tryz.prog 5 #[.agg c.toArray] w base := by
  obtain ⟨sv, lv, uv, rfl, -, ⟨sa, sc, rfl, -⟩, ⟨la, lc, lf, rfl, -⟩, hU⟩ := ht.parts
  obtain ⟨ua, uc, rfl, -⟩ := id hU
  have hbw := (Below.refl base w).alloc hb (.cells #[.int .i64 t.n, .slice sa t.s.length sc, .bool t.null, .slice la t.l.length lc, .slice ua t.u.length uc] 26)
  have Z3 := Lib.hid (zFits3 t.u _ B base _ hB (Nat.le_trans hb hbw.size) (hU.below (hbw.mono hB)))
  have HB := Lib.hid hbw
  clear hU ht hbw
  by_cases h1 : (2147483647 : Int) < (t.s.length : Nat)
  · go_enter Tryz.func5, Tryz.ntmps5
    go_wp2
    go_ret
    exact ⟨.mk _, HB.out⟩
  by_cases h2 : (2147483647 : Int) < (t.l.length : Nat)
  · go_enter Tryz.func5, Tryz.ntmps5
    go_wp2
    go_ret
    exact ⟨.mk _, HB.out⟩
  go_enter Tryz.func5, Tryz.ntmps5
  go_wp2_with fail
  refine Z3.out.mono ?_
  rintro e w' ⟨⟨b, rfl⟩, hb3⟩
  have FIN := Lib.hid (HB.out.trans hb3)
  clear hb3
  cases b
  · go_wp2
    go_ret
    exact ⟨.mk _, FIN.out⟩
  · go_wp2
    go_ret
    exact ⟨.mk _, FIN.out⟩
end Go.Proofs.YtmpilpgabelmiaaGreatDoor

/- Octets that came in, as the walks take them. -/
namespace Go.Proofs.YtmpilpgabelmiaaGreatDoor
open Go Go.RowKit Go.ChangeShapes

theorem wf_u8 {z : Int} (h : (Lit.int .u8 z).wf = true) : 0 ≤ z ∧ z ≤ 255 := by
  have hmin : IntKind.u8.min = 0 := rfl
  have hmax : IntKind.u8.max = 255 := rfl
  simpa only [Lit.wf, Bool.and_eq_true, decide_eq_true_eq, hmin, hmax] using h
theorem rb_of_ints {W : World} {a : Addr} {len cap : Nat} {zs : List Int} (hl : len ≤ cap) (hm : cap ≤ maxLen) (hz : len ≤ zs.length)
    (hcell : ∀ i, i < zs.length → W.cell? (a.add i) = some (.int .u8 (zs.getD i 0))) (hw : ∀ n ∈ zs, (Lit.int .u8 n).wf = true) :
    ∃ bs : List UInt8, bs.length = len ∧ RB [] W (.slice (some a) len cap) bs := by
  refine ⟨(zs.take len).map fun z => UInt8.ofNat z.toNat, by simp; omega, ?_⟩
  have e : ((zs.take len).map fun z => UInt8.ofNat z.toNat).length = len := by simp; omega
  refine ⟨some a, cap, by rw [e], by rw [e]; exact hl, by unfold maxLen at hm; omega, fun hne => ?_⟩
  have h0 : 0 < zs.length := by
    rcases Nat.eq_zero_or_pos zs.length with h | h
    · have : zs = [] := List.eq_nil_of_length_eq_zero h
      subst this
      simp at hne
    · exact h
  obtain ⟨b, o, spot⟩ := a
  cases spot with
  | some s =>
    have := hcell 0 h0
    simp [World.cell?, Addr.add] at this
    cases hh : W.heap[b]? with
    | none => rw [hh] at this; cases this
    | some ob => rw [hh] at this; cases ob <;> cases this
  | none =>
    refine ⟨b, o, rfl, by simp, fun i u hi => ?_⟩
    rw [List.getElem?_map, List.getElem?_take] at hi
    split at hi
    · rename_i hlt
      have hi2 : i < zs.length := by omega
      rw [List.getElem?_eq_getElem hi2] at hi
      simp only [Option.map_some, Option.some.injEq] at hi
      have hc := hcell i hi2
      rw [Addr.add_lit] at hc
      have hb := wf_u8 (hw _ (List.getElem_mem hi2))
      rw [hc, ← hi]
      unfold byteV
      have e2 : zs.getD i 0 = zs[i] := by simp [List.getD, hi2]
      rw [e2]
      have e3 : ((UInt8.ofNat zs[i].toNat).toNat : Int) = zs[i] := by
        rw [UInt8.toNat_ofNat']
        omega
      rw [e3]
    · cases hi
end Go.Proofs.YtmpilpgabelmiaaGreatDoor

/- What the reference writes of a tree is what 'ap' writes of a value that can be told. No program in sight. -/
namespace Go.Proofs.YtmpilpgabelmiaaGreatDoor

/-- May a field be null at a version? -/
def nulV (nu ver : Int) : Bool := decide (0 ≤ nu) && decide (nu ≤ ver)
def gvLeaf (ver nu : Int) : Leaf → Tree → GV
  | .i8, t => .int (sg 128 t.n)
  | .i16, t => .int (sg 32768 t.n)
  | .i32, t => .int (sg 2147483648 t.n)
  | .i64, t => .int (sg 9223372036854775808 t.n)
  | .u16, t => .int (t.n % 65536)
  | .bool, t => .bool (decide (t.n % 2 = 1))
  | .uuid, t => .bytes (uuid16 t.s)
  | .str, t => .bytes (whole t.s)
  | .nstr, t => if pNull nu ver t then .null else .bytes (whole t.s)
  | .nstrFrom _, t => if pNull nu ver t then .null else .bytes (whole t.s)
  | .bytes, t => .bytes (whole t.s)
def unkGV (flex : Bool) (t : Tree) : List (Nat × List UInt8) := if flex then (unk t.u).map fun u => (u.1, whole u.2) else []
def isLeaf : Sch → Bool
  | .leaf _ => true
  | _ => false
/-- What a tree says, as a value of the kind. -/
def gvS (ver : Int) (flex : Bool) : Sch → Int → PFs → Nat → Tree → GV
  | .leaf k, nu, _, _, t => gvLeaf ver nu k t
  | .list _ _ e, nu, sub, _, t => if pNull nu ver t then .null else .list ((t.l.take 32767).map fun t' => gvS ver flex e (-1) sub 0 t')
  | .opt e, nu, sub, _, t => if pNull nu ver t then .null else gvS ver flex e (-1) sub 0 t
  | .done, _, _, _, _ => .unit
  | .tags _, _, _, _, t => .tags (unkGV flex t)
  | .cons _ _ _ f rest, _, .cons _ _ _ nu _ _ _ sub prest, i, t => .cons (gvS ver flex f nu sub 0 (atT t i)) (gvS ver flex rest (-1) prest (i + 1) t)
  | .cons .., _, .nil, _, _ => .unit
  | .ktag .., _, _, _, _ => .unit
def agLeaf (ver k nu : Int) : Leaf → Bool
  | .i8 => decide (k = 1)
  | .i16 => decide (k = 2)
  | .i32 => decide (k = 3)
  | .i64 => decide (k = 4)
  | .u16 => decide (k = 5)
  | .bool => decide (k = 0)
  | .uuid => decide (k = 7)
  | .str => decide (k = 8) && !nulV nu ver
  | .nstr => decide (k = 8)
  | .nstrFrom m => decide (k = 8) && (!nulV nu ver || decide (m ≤ ver))
  | .bytes => decide (k = 9) && !nulV nu ver
/-- Do the reference's fields and the code's agree, at a version? 'fld': a field of kind k (of things: ok), null from nu on, with the fields sub; else the fields sub themselves. -/
def agree (ver : Int) (flex : Bool) : Sch → Bool → Int → Int → Int → PFs → Bool
  | .leaf lf, fld, k, nu, _, _ => fld && agLeaf ver k nu lf
  | .list nul _ e, fld, k, nu, ok, sub => fld && decide (k = 11) && (!nulV nu ver || nullAt nul ver) && (if isLeaf e then agree ver flex e true ok (-1) 0 .nil else decide (ok = 10) && agree ver flex e false 0 (-1) 0 sub)
  | .opt e, fld, k, nu, _, sub => fld && decide (k = 10) && decide (0 ≤ nu) && agree ver flex e false 0 (-1) 0 sub
  | .done, fld, _, _, _, fs => !fld && !flex && (match fs with | .nil => true | _ => false)
  | .tags _, fld, _, _, _, fs => !fld && (match fs with | .nil => true | _ => false)
  | .ktag .., _, _, _, _, _ => false
  | .cons _ lo hi f rest, fld, k, nu, _, fs =>
    if fld then decide (k = 10) && decide (nu < 0) && (match fs with
      | .nil => false
      | .cons k' fr to nu' tg _ ok' sub prest => decide (tg < 0) && (pHas fr to ver == hasV lo hi ver) && (!hasV lo hi ver || agree ver flex f true k' nu' ok' sub) && agree ver flex rest false 0 (-1) 0 prest)
    else match fs with
      | .nil => false
      | .cons k' fr to nu' tg _ ok' sub prest => decide (tg < 0) && (pHas fr to ver == hasV lo hi ver) && (!hasV lo hi ver || agree ver flex f true k' nu' ok' sub) && agree ver flex rest false 0 (-1) 0 prest
/-- All numbers of unknown tags are numbers of 32 bits. -/
inductive TW : Tree → Prop
  | mk (n : Int) (s : List UInt8) (null : Bool) (l : List Tree) (u : List (Nat × List UInt8)) (hu : ∀ kv ∈ u, kv.1 ≤ 4294967295) (hl : ∀ t ∈ l, TW t) : TW (.mk n s null l u)
theorem TW.zero : TW .zero := .mk _ _ _ _ _ (fun _ h => nomatch h) (fun _ h => nomatch h)
theorem TW.mem {t t' : Tree} (h : TW t) (hm : t' ∈ t.l) : TW t' := by
  cases h with
  | mk n s null l u hu hl => exact hl t' hm
theorem TW.keys {t : Tree} (h : TW t) : ∀ kv ∈ t.u, kv.1 ≤ 4294967295 := by
  cases h with
  | mk n s null l u hu hl => exact hu
theorem TW.at {t : Tree} (h : TW t) (i : Nat) : TW (atT t i) := by
  unfold atT
  rw [List.getD_eq_getElem?_getD]
  cases hi : t.l[i]? with
  | none => exact TW.zero
  | some x => exact h.mem (List.mem_of_getElem? hi)

theorem bb_sg (m n : Int) (h : ∃ k, 2 * m = 256 * k) : bb (sg m n) = bb n := by
  obtain ⟨k, hk⟩ := h
  unfold bb
  congr 2
  have e : sg m n = n - 2 * m * ((n + m) / (2 * m)) := by
    have := Int.emod_add_mul_ediv (n + m) (2 * m)
    unfold sg
    omega
  rw [e, hk, Int.mul_assoc]
  omega
theorem be_sg16 (n : Int) : be16 (sg 32768 n) = be16 n := by
  rw [← be16_mod (sg 32768 n), ← be16_mod n]
  congr 1
  unfold sg
  omega
theorem be_sg32 (n : Int) : be32 (sg 2147483648 n) = be32 n := by
  rw [← be32_mod (sg 2147483648 n), ← be32_mod n]
  congr 1
  unfold sg
  omega
theorem be_sg64 (n : Int) : be64 (sg 9223372036854775808 n) = be64 n := by
  rw [← be64_mod (sg 9223372036854775808 n), ← be64_mod n]
  congr 1
  unfold sg
  omega
theorem whole_length (s : List UInt8) : (whole s).length ≤ 32767 := by simp [whole]; omega
theorem counted2 (flex : Bool) (n : Nat) : counted flex false n 2 = lenS flex n := by
  unfold counted lenS
  cases flex <;> simp [fixed]
theorem counted2n (flex : Bool) (n : Nat) : counted flex true n 2 = nulS flex := by
  unfold counted nulS
  cases flex <;> simp [fixed]
  decide
theorem counted4 (flex : Bool) (n : Nat) : counted flex false n 4 = lenB flex n := by
  unfold counted lenB
  cases flex <;> simp [fixed]
theorem counted4n (flex : Bool) (n : Nat) : counted flex true n 4 = nulB flex := by
  unfold counted nulB
  cases flex <;> simp [fixed]
  decide
theorem pNull_nulV {nu ver : Int} {t : Tree} (h : nulV nu ver = false) : pNull nu ver t = false := by
  unfold nulV at h
  unfold pNull
  rw [Bool.and_assoc, h, Bool.and_false]
theorem nulV_of {nu ver : Int} {t : Tree} (h : pNull nu ver t = true) : nulV nu ver = true := by
  cases hn : nulV nu ver
  · rw [pNull_nulV hn] at h
    cases h
  · rfl
theorem ag_leaf {ver : Int} {flex : Bool} {k nu : Int} {lf : Leaf} (h : agLeaf ver k nu lf = true) (pp : Tree → List UInt8) (t : Tree) : pVal flex k pp (pNull nu ver t) t = apLeaf ver flex lf (gvLeaf ver nu lf t) := by
  cases lf <;> simp only [agLeaf, Bool.and_eq_true, Bool.or_eq_true, Bool.not_eq_true', decide_eq_true_eq] at h
  case i8 => subst h; simp [pVal, apLeaf, gvLeaf, fixed, pWidth, bb_sg 128 t.n ⟨1, rfl⟩]
  case i16 => subst h; simp [pVal, apLeaf, gvLeaf, fixed, pWidth, be_sg16]
  case i32 => subst h; simp [pVal, apLeaf, gvLeaf, fixed, pWidth, be_sg32]
  case i64 => subst h; simp [pVal, apLeaf, gvLeaf, fixed, pWidth, be_sg64]
  case u16 => subst h; simp [pVal, apLeaf, gvLeaf, fixed, pWidth, be16_mod]
  case bool =>
    subst h
    have h2 : t.n % 2 = 0 ∨ t.n % 2 = 1 := by omega
    rcases h2 with h2 | h2 <;> simp [pVal, apLeaf, gvLeaf, h2] <;> decide
  case uuid => subst h; simp [pVal, apLeaf, gvLeaf]
  case str =>
    obtain ⟨rfl, h2⟩ := h
    simp [pVal, apLeaf, gvLeaf, pNull_nulV h2, counted2]
  case nstr =>
    subst h
    cases hp : pNull nu ver t <;> simp [pVal, apLeaf, gvLeaf, hp, counted2, counted2n]
  case nstrFrom m =>
    obtain ⟨rfl, h2⟩ := h
    cases hp : pNull nu ver t
    · simp [pVal, apLeaf, gvLeaf, hp, counted2]
    · have hm : ¬ ver < m := by
        rcases h2 with h2 | h2
        · rw [pNull_nulV h2] at hp; cases hp
        · omega
      simp [pVal, apLeaf, gvLeaf, hp, counted2n, hm]
  case bytes =>
    obtain ⟨rfl, h2⟩ := h
    simp [pVal, apLeaf, gvLeaf, pNull_nulV h2, counted4]
theorem sg_bounds {m : Int} (hm : 0 < m) (n : Int) : -m ≤ sg m n ∧ sg m n < m := by
  have h3 := Int.emod_nonneg (n + m) (b := 2 * m) (by omega)
  have h4 := Int.emod_lt_of_pos (n + m) (b := 2 * m) (by omega)
  unfold sg
  omega
theorem uuid16_len (s : List UInt8) : (uuid16 s).length = 16 := by simp [uuid16]
theorem wf_leaf {ver : Int} {flex : Bool} {k nu : Int} {lf : Leaf} (h : agLeaf ver k nu lf = true) (t : Tree) : wfLeaf ver flex lf (gvLeaf ver nu lf t) := by
  have hw := whole_length t.s
  have hs : (whole t.s).length ≤ strMax flex := by unfold strMax; split <;> omega
  cases lf <;> simp only [agLeaf, Bool.and_eq_true, Bool.or_eq_true, Bool.not_eq_true', decide_eq_true_eq] at h
  case i8 => have := sg_bounds (m := 128) (by omega) t.n; exact ⟨this.1, by omega⟩
  case i16 => have := sg_bounds (m := 32768) (by omega) t.n; exact ⟨this.1, by omega⟩
  case i32 => have := sg_bounds (m := 2147483648) (by omega) t.n; exact ⟨this.1, by omega⟩
  case i64 => have := sg_bounds (m := 9223372036854775808) (by omega) t.n; exact ⟨this.1, by omega⟩
  case u16 => simp only [gvLeaf, wfLeaf]; omega
  case bool => trivial
  case uuid => exact uuid16_len t.s
  case str => exact hs
  case nstr => cases hp : pNull nu ver t <;> simp [gvLeaf, wfLeaf, hp, hs]
  case nstrFrom m =>
    cases hp : pNull nu ver t
    · simp [gvLeaf, wfLeaf, hp, hs]
    · have hm : ¬ ver < m := by
        rcases h.2 with h2 | h2
        · rw [pNull_nulV h2] at hp; cases hp
        · omega
      simp only [gvLeaf, hp, if_true, wfLeaf]
      exact hm
  case bytes => simp only [gvLeaf, wfLeaf, bMax]; split <;> omega
theorem insU_mem : ∀ (l : List (Nat × List UInt8)) (k : Nat) (v : List UInt8) (u : Nat × List UInt8), u ∈ insU k v l → u = (k, v) ∨ u ∈ l
  | [], k, v, u, h => by simpa [insU] using h
  | (j, x) :: l, k, v, u, h => by
    simp only [insU] at h
    split at h
    · rcases List.mem_cons.1 h with h | h
      · exact .inr (by rw [h]; exact List.mem_cons_self ..)
      · rcases insU_mem l k v u h with h | h
        · exact .inl h
        · exact .inr (List.mem_cons_of_mem _ h)
    · split at h
      · exact .inr h
      · simpa using h
theorem insU_rising : ∀ (l : List (Nat × List UInt8)) (k : Nat) (v : List UInt8), rising l → rising (insU k v l) ∧ (insU k v l).length ≤ l.length + 1
  | [], k, v, _ => ⟨trivial, by simp [insU]⟩
  | (j, x) :: l, k, v, h => by
    obtain ⟨h1, h2⟩ := rising_tail h
    simp only [insU]
    split
    · rename_i hk
      obtain ⟨i1, i2⟩ := insU_rising l k v h1
      refine ⟨rising_cons i1 ?_, by simp only [List.length_cons]; omega⟩
      intro u hu
      rcases insU_mem l k v u hu with rfl | hu
      · simp only; omega
      · exact h2 u hu
    · split
      · exact ⟨h, by simp⟩
      · rename_i hk hj
        exact ⟨⟨by simp only; omega, h⟩, by simp⟩
theorem foldl_insU : ∀ (l acc : List (Nat × List UInt8)), rising acc → (∀ t ∈ acc, t.1 ≤ 4294967295) → (∀ t ∈ l, t.1 ≤ 4294967295) →
    rising (l.foldl (fun acc t => insU t.1 t.2 acc) acc) ∧ (l.foldl (fun acc t => insU t.1 t.2 acc) acc).length ≤ acc.length + l.length ∧ (∀ t ∈ l.foldl (fun acc t => insU t.1 t.2 acc) acc, t.1 ≤ 4294967295)
  | [], acc, h, h2, _ => ⟨h, by simp, h2⟩
  | t :: l, acc, h, h2, h3 => by
    obtain ⟨i1, i2⟩ := insU_rising acc t.1 t.2 h
    obtain ⟨j1, j2, j3⟩ := foldl_insU l (insU t.1 t.2 acc) i1 (fun u hu => by
      rcases insU_mem acc t.1 t.2 u hu with rfl | hu
      · exact h3 _ (List.mem_cons_self ..)
      · exact h2 u hu) (fun u hu => h3 u (List.mem_cons_of_mem _ hu))
    simp only [List.foldl_cons]
    exact ⟨j1, by simp only [List.length_cons]; omega, j3⟩
theorem unk_ok {u : List (Nat × List UInt8)} (h : ∀ kv ∈ u, kv.1 ≤ 4294967295) : rising (unk u) ∧ (unk u).length ≤ 32767 ∧ ∀ t ∈ unk u, t.1 ≤ 4294967295 := by
  obtain ⟨h1, h2, h3⟩ := foldl_insU (u.take 32767) [] trivial (fun t ht => nomatch ht) (fun t ht => h t (List.mem_of_mem_take ht))
  refine ⟨h1, ?_, h3⟩
  have h4 : (unk u).length ≤ ([] : List (Nat × List UInt8)).length + (u.take 32767).length := h2
  simp at h4
  omega
theorem rising_map : ∀ {l : List (Nat × List UInt8)} (f : List UInt8 → List UInt8), rising l → rising (l.map fun u => (u.1, f u.2))
  | [], _, _ => trivial
  | [_], _, _ => trivial
  | _ :: _ :: _, f, h => ⟨h.1, rising_map f h.2⟩
theorem wf_unk (flex : Bool) {t : Tree} (h : TW t) : rising (unkGV flex t) ∧ (unkGV flex t).length ≤ 4294967295 ∧ (∀ u ∈ unkGV flex t, u.1 ≤ 4294967295 ∧ u.2.length ≤ 4294967295) ∧ (flex = false → unkGV flex t = []) := by
  obtain ⟨h1, h2, h3⟩ := unk_ok h.keys
  cases flex
  · exact ⟨trivial, by simp [unkGV], (fun u hu => nomatch hu), fun _ => rfl⟩
  · refine ⟨rising_map whole h1, ?_, ?_, fun h => nomatch h⟩
    · simp [unkGV]; omega
    · intro u hu
      simp only [unkGV, if_true, List.mem_map] at hu
      obtain ⟨x, hx, rfl⟩ := hu
      have := whole_length x.2
      exact ⟨h3 x hx, by simp only; omega⟩
theorem tail_ap (flex : Bool) (t : Tree) (ver : Int) (off : Nat) : pTail flex t = ap ver flex (.tags off) (.tags (unkGV flex t)) := by
  cases flex
  · rfl
  · simp only [pTail, ap, unkGV, if_true, List.length_map, apTags, List.flatMap_map]
    rfl
theorem flatMap_same {α β : Type} {f g : α → List β} : ∀ {l : List α}, (∀ x, x ∈ l → f x = g x) → l.flatMap f = l.flatMap g
  | [], _ => rfl
  | x :: l, h => by rw [List.flatMap_cons, List.flatMap_cons, h x (List.mem_cons_self ..), flatMap_same fun y hy => h y (List.mem_cons_of_mem _ hy)]
/-- What the reference writes is what 'ap' writes. (A field; fields.) -/
theorem gv_ap (ver : Int) (flex : Bool) : ∀ (s : Sch) (fld : Bool) (k nu ok : Int) (fs : PFs), agree ver flex s fld k nu ok fs = true →
    (fld = true → ∀ t, pField ver flex k nu ok (fun t' => pFields ver flex fs 0 t' ++ pTail flex t') t = ap ver flex s (gvS ver flex s nu fs 0 t)) ∧
    (fld = false → ∀ i t, pFields ver flex fs i t ++ pTail flex t = ap ver flex s (gvS ver flex s (-1) fs i t))
  | .leaf lf, fld, k, nu, ok, fs, h => by
    simp only [agree, Bool.and_eq_true] at h
    refine ⟨fun _ t => ?_, fun hf => by rw [hf] at h; exact absurd h.1 (by simp)⟩
    have hk : k ≠ 11 ∧ k ≠ 10 := by
      have := h.2
      cases lf <;> simp only [agLeaf, Bool.and_eq_true, decide_eq_true_eq] at this <;> omega
    simp only [pField, if_neg hk.1, hk.2, false_and, if_false, ap, gvS]
    exact ag_leaf h.2 _ t
  | .list nul z e, fld, k, nu, ok, fs, h => by
    simp only [agree, Bool.and_eq_true, decide_eq_true_eq, beq_iff_eq] at h
    obtain ⟨⟨⟨h1, rfl⟩, h3⟩, h4⟩ := h
    refine ⟨fun _ t => ?_, fun hf => by rw [hf] at h1; cases h1⟩
    simp only [pField, if_true, gvS]
    cases hp : pNull nu ver t
    · simp only [pThings, Bool.false_eq_true, if_false, ap, List.length_map, counted4, List.flatMap_map]
      congr 1
      refine flatMap_same fun t' _ => ?_
      by_cases hl : isLeaf e = true
      · rw [if_pos hl] at h4
        cases e <;> simp only [isLeaf] at hl <;> try cases hl
        rename_i lf
        simp only [agree, Bool.true_and] at h4
        have := ag_leaf (flex := flex) h4 (fun t' => pFields ver flex fs 0 t' ++ pTail flex t') t'
        have hp' : pNull (-1) ver t' = false := pNull_nulV (by simp [nulV])
        rw [hp'] at this
        exact this
      · rw [if_neg hl] at h4
        simp only [Bool.and_eq_true, decide_eq_true_eq] at h4
        obtain ⟨rfl, h4⟩ := h4
        exact (gv_ap ver flex e false 0 (-1) 0 fs h4).2 rfl 0 t'
    · simp [pThings, ap, counted4n]
  | .opt e, fld, k, nu, ok, fs, h => by
    simp only [agree, Bool.and_eq_true, decide_eq_true_eq] at h
    obtain ⟨⟨⟨h1, rfl⟩, h3⟩, h4⟩ := h
    refine ⟨fun _ t => ?_, fun hf => by rw [hf] at h1; cases h1⟩
    have h5 := (gv_ap ver flex e false 0 (-1) 0 fs h4).2 rfl 0 t
    simp only [pField, gvS]
    rw [if_neg (by omega), if_pos (And.intro trivial h3)]
    cases hp : pNull nu ver t
    · simp only [Bool.false_eq_true, if_false]
      rw [h5]
      have hne : gvS ver flex e (-1) fs 0 t ≠ .null := by
        cases e with
        | leaf _ => simp [agree] at h4
        | list _ _ _ => simp [agree] at h4
        | opt _ => simp [agree] at h4
        | done => simp [gvS]
        | tags _ => simp [gvS]
        | cons _ _ _ _ _ => cases fs <;> simp [gvS]
        | ktag _ _ _ _ => simp [gvS]
      have e1 : fixed 1 1 = [1] := by decide
      rw [e1]
      generalize gvS ver flex e (-1) fs 0 t = g at *
      cases g <;> first | exact absurd rfl hne | rfl
    · simp only [if_true, ap]
      decide
  | .done, fld, k, nu, ok, fs, h => by
    simp only [agree, Bool.and_eq_true, Bool.not_eq_true'] at h
    obtain ⟨⟨h1, h2⟩, h3⟩ := h
    refine ⟨fun hf => by rw [hf] at h1; (cases h1), fun _ i t => ?_⟩
    cases fs <;> try (cases h3)
    subst h2
    rfl
  | .ktag .., fld, k, nu, ok, fs, h => by simp [agree] at h
  | .tags off, fld, k, nu, ok, fs, h => by
    simp only [agree, Bool.and_eq_true, Bool.not_eq_true'] at h
    obtain ⟨h1, h3⟩ := h
    refine ⟨fun hf => by rw [hf] at h1; (cases h1), fun _ i t => ?_⟩
    cases fs <;> try (cases h3)
    simp only [pFields, List.nil_append, gvS]
    exact tail_ap flex t ver off
  | .cons off lo hi f rest, fld, k, nu, ok, fs, h => by
    have key : ∀ {fs : PFs}, (match fs with
      | .nil => false
      | .cons k' fr to nu' tg _ ok' sub prest => decide (tg < 0) && (pHas fr to ver == hasV lo hi ver) && (!hasV lo hi ver || agree ver flex f true k' nu' ok' sub) && agree ver flex rest false 0 (-1) 0 prest) = true →
      ∀ i t nu, pFields ver flex fs i t ++ pTail flex t = ap ver flex (.cons off lo hi f rest) (gvS ver flex (.cons off lo hi f rest) nu fs i t) := by
      intro fs h i t nu
      cases fs with
      | nil => cases h
      | cons k' fr to nu' tg df ok' sub prest =>
        simp only [Bool.and_eq_true, decide_eq_true_eq, beq_iff_eq, Bool.or_eq_true, Bool.not_eq_true'] at h
        obtain ⟨⟨⟨h1, h2⟩, h3⟩, h4⟩ := h
        have r2 := (gv_ap ver flex rest false 0 (-1) 0 prest h4).2 rfl (i + 1) t
        simp only [pFields, gvS, ap, decide_eq_true h1, Bool.true_and, h2]
        rw [List.append_assoc, r2]
        congr 1
        by_cases hv : hasV lo hi ver = true
        · rw [if_pos hv, if_pos hv]
          have h3' := h3.resolve_left (by rw [hv]; exact fun h => by cases h)
          exact (gv_ap ver flex f true k' nu' ok' sub h3').1 rfl (atT t i)
        · rw [if_neg hv, if_neg hv]
    cases fld
    · simp only [agree, Bool.false_eq_true, if_false] at h
      exact ⟨(fun hf => by cases hf), fun _ i t => key h i t (-1)⟩
    · simp only [agree, if_true, Bool.and_eq_true, decide_eq_true_eq] at h
      obtain ⟨⟨rfl, h2⟩, h3⟩ := h
      refine ⟨fun _ t => ?_, fun hf => by cases hf⟩
      have := key h3 0 t nu
      simp only [pField]
      rw [if_neg (by omega), if_neg (by omega)]
      simp only [pVal]
      rw [if_neg (by omega), if_neg (by omega), if_neg (by omega), if_neg (by omega), if_pos trivial]
      exact this
/-- What a tree says can be told. -/
theorem gv_wf (ver : Int) (flex : Bool) : ∀ (s : Sch) (fld : Bool) (k nu ok : Int) (fs : PFs), agree ver flex s fld k nu ok fs = true → ∀ (i : Nat) (t : Tree), TW t → WF ver flex s (gvS ver flex s nu fs i t)
  | .leaf lf, fld, k, nu, ok, fs, h, i, t, ht => by
    simp only [agree, Bool.and_eq_true] at h
    exact wf_leaf h.2 t
  | .list nul z e, fld, k, nu, ok, fs, h, i, t, ht => by
    simp only [agree, Bool.and_eq_true, decide_eq_true_eq, beq_iff_eq] at h
    obtain ⟨⟨⟨h1, rfl⟩, h3⟩, h4⟩ := h
    simp only [gvS]
    cases hp : pNull nu ver t
    · simp only [Bool.false_eq_true, if_false, WF, List.length_map, List.length_take, List.mem_map]
      refine ⟨by omega, ?_⟩
      rintro v ⟨t', ht', rfl⟩
      have htw := ht.mem (List.mem_of_mem_take ht')
      by_cases hl : isLeaf e = true
      · rw [if_pos hl] at h4
        cases e <;> simp only [isLeaf] at hl <;> try cases hl
        exact gv_wf ver flex _ true ok (-1) 0 .nil h4 0 t' htw
      · rw [if_neg hl] at h4
        simp only [Bool.and_eq_true, decide_eq_true_eq] at h4
        exact gv_wf ver flex e false 0 (-1) 0 fs h4.2 0 t' htw
    · simp only [if_true, WF]
      rw [nulV_of hp] at h3
      simpa using h3
  | .opt e, fld, k, nu, ok, fs, h, i, t, ht => by
    simp only [agree, Bool.and_eq_true, decide_eq_true_eq] at h
    obtain ⟨⟨⟨h1, rfl⟩, h3⟩, h4⟩ := h
    simp only [gvS]
    cases hp : pNull nu ver t
    · simp only [Bool.false_eq_true, if_false]
      have hx : WF ver flex e (gvS ver flex e (-1) fs 0 t) := gv_wf ver flex e false 0 (-1) 0 fs h4 0 t ht
      generalize gvS ver flex e (-1) fs 0 t = g at *
      cases g <;> first | trivial | exact hx
    · trivial
  | .done, fld, k, nu, ok, fs, h, i, t, ht => trivial
  | .tags off, fld, k, nu, ok, fs, h, i, t, ht => wf_unk flex ht
  | .ktag .., fld, k, nu, ok, fs, h, i, t, ht => by simp [agree] at h
  | .cons off lo hi f rest, fld, k, nu, ok, fs, h, i, t, ht => by
    have key : ∀ {fs : PFs}, (match fs with
      | .nil => false
      | .cons k' fr to nu' tg _ ok' sub prest => decide (tg < 0) && (pHas fr to ver == hasV lo hi ver) && (!hasV lo hi ver || agree ver flex f true k' nu' ok' sub) && agree ver flex rest false 0 (-1) 0 prest) = true → WF ver flex (.cons off lo hi f rest) (gvS ver flex (.cons off lo hi f rest) nu fs i t) := by
      intro fs h
      cases fs with
      | nil => cases h
      | cons k' fr to nu' tg df ok' sub prest =>
        simp only [Bool.and_eq_true, decide_eq_true_eq, beq_iff_eq, Bool.or_eq_true, Bool.not_eq_true'] at h
        obtain ⟨⟨⟨h1, h2⟩, h3⟩, h4⟩ := h
        exact ⟨fun hv => gv_wf ver flex f true k' nu' ok' sub (h3.resolve_left (by rw [hv]; exact fun h => by cases h)) 0 (atT t i) (ht.at i), gv_wf ver flex rest false 0 (-1) 0 prest h4 (i + 1) t ht⟩
    cases fld
    · simp only [agree, Bool.false_eq_true, if_false] at h
      exact key h
    · simp only [agree, if_true, Bool.and_eq_true] at h
      exact key h.2
end Go.Proofs.YtmpilpgabelmiaaGreatDoor

/- How much the reference writes: by the fields alone; by what the tree holds. No program in sight. -/
namespace Go.Proofs.YtmpilpgabelmiaaGreatDoor

theorem uvF_len : ∀ k n, (uvF k n).length ≤ k + 1
  | 0, n => by simp [uvF]
  | k + 1, n => by
    unfold uvF
    split
    · simp
    · have := uvF_len k (n / 128)
      simp only [List.length_cons]
      omega
theorem uv_len10 (n : Nat) : (uv n).length ≤ 10 := uvF_len 9 n
theorem fixed_len (n : Int) (k : Nat) : (fixed n k).length ≤ 8 := by
  unfold fixed
  split
  · simp
  split
  · simp [be16]
  split <;> simp [be32, be64]
theorem counted_len (flex null : Bool) (n k : Nat) : (counted flex null n k).length ≤ 10 := by
  unfold counted
  have h1 := fixed_len (-1) k
  have h2 := fixed_len n k
  have h3 := uv_len10 (n + 1)
  cases flex <;> cases null <;> simp <;> omega
theorem whole_le (s : List UInt8) : (whole s).length ≤ 32767 ∧ (whole s).length ≤ s.length := by
  unfold whole
  rw [List.length_take]
  omega
theorem pTag_len (t : Nat × List UInt8) : (pTag t).length ≤ 20 + (whole t.2).length := by
  have h1 := uv_len10 t.1
  have h2 := uv_len10 (whole t.2).length
  simp only [pTag, List.length_append]
  omega
theorem flatMap_le {α β : Type} {f : α → List β} {c : Nat} : ∀ {l : List α}, (∀ x, x ∈ l → (f x).length ≤ c) → (l.flatMap f).length ≤ l.length * c
  | [], _ => by simp
  | x :: l, h => by
    have h1 := h x (List.mem_cons_self ..)
    have h2 := flatMap_le (l := l) fun y hy => h y (List.mem_cons_of_mem _ hy)
    simp only [List.flatMap_cons, List.length_append, List.length_cons, Nat.succ_mul]
    omega
/-- The most that tags take. -/
def tgMax (flex : Bool) : Nat := if flex then 10 + 32767 * 32787 else 0
theorem pTail_max (flex : Bool) (t : Tree) : (pTail flex t).length ≤ tgMax flex := by
  cases flex
  · simp [pTail, tgMax]
  · have h1 := unk_len t.u
    have h2 := uv_len10 (unk t.u).length
    have h3 : ((unk t.u).flatMap pTag).length ≤ (unk t.u).length * 32787 := flatMap_le fun x _ => by
      have := pTag_len x
      have := (whole_le x.2).1
      omega
    have h4 := Nat.mul_le_mul_right 32787 h1
    simp only [pTail, tgMax, if_true, List.length_append]
    omega
/-- The most that a value of a kind takes; sm: a part. -/
def valMax (k : Int) (sm : Nat) : Nat := if k = 10 then sm else 32777
theorem pVal_max (flex : Bool) (k : Int) (pp : Tree → List UInt8) (null : Bool) (t : Tree) (sm : Nat) (h : (pp t).length ≤ sm) : (pVal flex k pp null t).length ≤ valMax k sm := by
  have hw := (whole_le t.s).1
  have hx : ∀ b : Bool, (if b then ([] : List UInt8) else whole t.s).length ≤ 32767 := by
    intro b
    cases b
    · simpa using hw
    · simp
  by_cases h10 : k = 10
  · subst h10
    exact h
  have e : valMax k sm = 32777 := if_neg h10
  rw [e]
  unfold pVal
  split
  · simp
  split
  · simp [uuid16]
  split
  · rw [List.length_append]
    have := counted_len flex null (if null then ([] : List UInt8) else whole t.s).length 2
    have := hx null
    omega
  split
  · rw [List.length_append]
    have := counted_len flex null (if null then ([] : List UInt8) else whole t.s).length 4
    have := hx null
    omega
  · have := fixed_len t.n (pWidth k)
    omega
/-- The most that fields take. -/
def mx (flex : Bool) : PFs → Nat
  | .nil => 0
  | .cons k _ _ _ _ _ ok sub rest => (if k = 11 then 10 + 32767 * valMax ok (mx flex sub + tgMax flex) else 1 + valMax k (mx flex sub + tgMax flex)) + mx flex rest
theorem pFields_max (ver : Int) (flex : Bool) : ∀ (fs : PFs) (i : Nat) (t : Tree), (pFields ver flex fs i t).length ≤ mx flex fs
  | .nil, _, _ => by simp [pFields]
  | .cons k fr to nu tg df ok sub rest, i, t => by
    have hr := pFields_max ver flex rest (i + 1) t
    have hs : ∀ t', (pFields ver flex sub 0 t' ++ pTail flex t').length ≤ mx flex sub + tgMax flex := fun t' => by
      have h1 := pFields_max ver flex sub 0 t'
      have h2 := pTail_max flex t'
      rw [List.length_append]
      omega
    simp only [pFields, mx, List.length_append]
    refine Nat.add_le_add ?_ hr
    split
    · unfold pField
      split
      · rename_i h11
        rw [List.length_append]
        have h1 := counted_len flex (pNull nu ver (atT t i)) (pThings (pNull nu ver (atT t i)) (atT t i)).length 4
        have h2 : ((pThings (pNull nu ver (atT t i)) (atT t i)).flatMap (pVal flex ok (fun t' => pFields ver flex sub 0 t' ++ pTail flex t') false)).length ≤ (pThings (pNull nu ver (atT t i)) (atT t i)).length * valMax ok (mx flex sub + tgMax flex) :=
          flatMap_le fun x _ => pVal_max flex ok _ false x _ (hs x)
        have h3 : (pThings (pNull nu ver (atT t i)) (atT t i)).length ≤ 32767 := by
          unfold pThings
          split
          · simp
          · rw [List.length_take]; omega
        have h4 := Nat.mul_le_mul_right (valMax ok (mx flex sub + tgMax flex)) h3
        omega
      · split
        · rename_i h10
          have h1 := hs (atT t i)
          have e : valMax k (mx flex sub + tgMax flex) = mx flex sub + tgMax flex := by unfold valMax; rw [if_pos h10.1]
          rw [e]
          dsimp only
          split
          · have h2 : (fixed (-1) 1).length = 1 := rfl
            omega
          · have h2 : (fixed 1 1).length = 1 := rfl
            rw [List.length_append, h2]
            omega
        · have := pVal_max flex k (fun t' => pFields ver flex sub 0 t' ++ pTail flex t') (pNull nu ver (atT t i)) (atT t i) _ (hs _)
          omega
    · simp
theorem pPart_max (ver : Int) (flex : Bool) (fs : PFs) (t : Tree) : (pPart ver flex fs t).length ≤ mx flex fs + tgMax flex := by
  have h1 := pFields_max ver flex fs 0 t
  have h2 := pTail_max flex t
  unfold pPart
  rw [List.length_append]
  omega

/-- What tags hold; what a tree holds. -/
def wtU : List (Nat × List UInt8) → Nat
  | [] => 0
  | t :: r => 1 + t.2.length + wtU r
mutual
def Tree.wt : Tree → Nat
  | .mk _ s _ l u => 1 + s.length + wts l + wtU u
def wts : List Tree → Nat
  | [] => 0
  | t :: r => t.wt + wts r
end
theorem wt_eq (t : Tree) : t.wt = 1 + t.s.length + wts t.l + wtU t.u := by cases t; simp [Tree.wt, Tree.s, Tree.l, Tree.u]
theorem wt_mem : ∀ {l : List Tree} {t : Tree}, t ∈ l → t.wt ≤ wts l
  | x :: l, t, h => by
    simp only [wts]
    rcases List.mem_cons.1 h with rfl | h
    · omega
    · have := wt_mem h; omega
theorem wt_at (t : Tree) (i : Nat) : (atT t i).wt ≤ t.wt := by
  have e := wt_eq t
  unfold atT
  rw [List.getD_eq_getElem?_getD]
  cases h : t.l[i]? with
  | none => simp [Tree.zero, Tree.wt, wts, wtU]; omega
  | some x =>
    have := wt_mem (List.mem_of_getElem? h)
    simp only [Option.getD_some]
    omega
theorem wts_take : ∀ (n : Nat) (l : List Tree), wts (l.take n) ≤ wts l
  | 0, l => by simp [wts]
  | n + 1, [] => by simp [wts]
  | n + 1, x :: l => by
    have := wts_take n l
    simp only [List.take_succ_cons, wts]
    omega
theorem insU_wt (k : Nat) (v : List UInt8) : ∀ l : List (Nat × List UInt8), ((insU k v l).flatMap pTag).length ≤ (pTag (k, v)).length + (l.flatMap pTag).length
  | [] => by simp [insU]
  | (j, u) :: r => by
    have ih := insU_wt k v r
    simp only [insU]
    split
    · simp only [List.flatMap_cons, List.length_append] at ih ⊢
      omega
    · split
      · simp only [List.flatMap_cons, List.length_append]
        omega
      · simp only [List.flatMap_cons, List.length_append]
        omega
theorem fold_wt : ∀ (l acc : List (Nat × List UInt8)), ((l.foldl (fun acc t => insU t.1 t.2 acc) acc).flatMap pTag).length ≤ (acc.flatMap pTag).length + 21 * wtU l
  | [], acc => by simp [wtU]
  | t :: l, acc => by
    have h1 := fold_wt l (insU t.1 t.2 acc)
    have h2 := insU_wt t.1 t.2 acc
    have h3 := pTag_len t
    have h4 := (whole_le t.2).2
    simp only [List.foldl_cons, wtU]
    have h5 : (pTag (t.1, t.2)).length = (pTag t).length := rfl
    omega
theorem wtU_take : ∀ (n : Nat) (l : List (Nat × List UInt8)), wtU (l.take n) ≤ wtU l
  | 0, l => by simp [wtU]
  | n + 1, [] => by simp [wtU]
  | n + 1, x :: l => by
    have := wtU_take n l
    simp only [List.take_succ_cons, wtU]
    omega
theorem pTail_wt (flex : Bool) (t : Tree) : (pTail flex t).length ≤ 31 * t.wt := by
  have e := wt_eq t
  cases flex
  · simp [pTail]
  · have h1 := fold_wt (t.u.take 32767) []
    have h2 := wtU_take 32767 t.u
    have h3 := uv_len10 (unk t.u).length
    simp only [pTail, if_true, List.length_append]
    simp only [List.flatMap_nil, List.length_nil] at h1
    have h4 : ((unk t.u).flatMap pTag).length ≤ 0 + 21 * wtU (t.u.take 32767) := h1
    omega
theorem flatMap_wt {f : Tree → List UInt8} {c : Nat} : ∀ {l : List Tree}, (∀ x, x ∈ l → (f x).length ≤ c * x.wt) → (l.flatMap f).length ≤ c * wts l
  | [], _ => by simp
  | x :: l, h => by
    have h1 := h x (List.mem_cons_self ..)
    have h2 := flatMap_wt (l := l) fun y hy => h y (List.mem_cons_of_mem _ hy)
    simp only [List.flatMap_cons, List.length_append, wts, Nat.mul_add]
    omega
theorem pVal_wt (flex : Bool) (k : Int) (pp : Tree → List UInt8) (null : Bool) (t : Tree) (c : Nat) (h : (pp t).length ≤ c * t.wt) : (pVal flex k pp null t).length ≤ (c + 26) * t.wt := by
  have e := wt_eq t
  have hw := (whole_le t.s).2
  have hc : c * t.wt + 26 * t.wt = (c + 26) * t.wt := (Nat.add_mul c 26 t.wt).symm
  have hx : ∀ b : Bool, (if b then ([] : List UInt8) else whole t.s).length ≤ t.s.length := by
    intro b
    cases b
    · simpa using hw
    · simp
  unfold pVal
  split
  · simp; omega
  split
  · simp [uuid16]; omega
  split
  · rw [List.length_append]
    have := counted_len flex null (if null then ([] : List UInt8) else whole t.s).length 2
    have := hx null
    omega
  split
  · rw [List.length_append]
    have := counted_len flex null (if null then ([] : List UInt8) else whole t.s).length 4
    have := hx null
    omega
  split
  · omega
  · have := fixed_len t.n (pWidth k)
    omega
/-- So many octets at the most for each thing that the tree holds. -/
def cz : PFs → Nat
  | .nil => 0
  | .cons _ _ _ _ _ _ _ sub rest => cz sub + 68 + cz rest
theorem pFields_wt (ver : Int) (flex : Bool) : ∀ (fs : PFs) (i : Nat) (t : Tree), (pFields ver flex fs i t).length ≤ cz fs * t.wt
  | .nil, _, _ => by simp [pFields]
  | .cons k fr to nu tg df ok sub rest, i, t => by
    have hr := pFields_wt ver flex rest (i + 1) t
    have hs : ∀ t', (pFields ver flex sub 0 t' ++ pTail flex t').length ≤ (cz sub + 31) * t'.wt := fun t' => by
      have h1 := pFields_wt ver flex sub 0 t'
      have h2 := pTail_wt flex t'
      rw [List.length_append, Nat.add_mul]
      omega
    have ha := wt_at t i
    have ew := wt_eq (atT t i)
    simp only [pFields, cz, List.length_append]
    rw [Nat.add_mul]
    refine Nat.add_le_add ?_ hr
    have hm : (cz sub + 68) * (atT t i).wt ≤ (cz sub + 68) * t.wt := Nat.mul_le_mul_left _ ha
    refine Nat.le_trans ?_ hm
    have hsp : (cz sub + 68) * (atT t i).wt = (cz sub + 57) * (atT t i).wt + 11 * (atT t i).wt := by rw [← Nat.add_mul]
    have hsq : (cz sub + 57) * (atT t i).wt = (cz sub + 31) * (atT t i).wt + 26 * (atT t i).wt := by rw [← Nat.add_mul]
    split
    · unfold pField
      split
      · rw [List.length_append]
        have h1 := counted_len flex (pNull nu ver (atT t i)) (pThings (pNull nu ver (atT t i)) (atT t i)).length 4
        have h2 : ((pThings (pNull nu ver (atT t i)) (atT t i)).flatMap (pVal flex ok (fun t' => pFields ver flex sub 0 t' ++ pTail flex t') false)).length ≤ (cz sub + 31 + 26) * wts (pThings (pNull nu ver (atT t i)) (atT t i)) :=
          flatMap_wt fun x _ => pVal_wt flex ok _ false x _ (hs x)
        have h3 : wts (pThings (pNull nu ver (atT t i)) (atT t i)) ≤ wts (atT t i).l := by
          unfold pThings
          split
          · simp [wts]
          · exact wts_take _ _
        have h4 : (cz sub + 31 + 26) * wts (pThings (pNull nu ver (atT t i)) (atT t i)) ≤ (cz sub + 57) * (atT t i).wt := Nat.mul_le_mul_left _ (by omega)
        omega
      · split
        · have h1 := hs (atT t i)
          dsimp only
          split
          · have : (fixed (-1) 1).length ≤ 8 := fixed_len _ _
            omega
          · have h2 : (fixed 1 1).length = 1 := rfl
            rw [List.length_append, h2]
            omega
        · have h1 := pVal_wt flex k (fun t' => pFields ver flex sub 0 t' ++ pTail flex t') (pNull nu ver (atT t i)) (atT t i) _ (hs _)
          have h2 : (cz sub + 31 + 26) * (atT t i).wt = (cz sub + 57) * (atT t i).wt := rfl
          omega
    · simp
theorem pPart_wt (ver : Int) (flex : Bool) (fs : PFs) (t : Tree) : (pPart ver flex fs t).length ≤ (cz fs + 31) * t.wt := by
  have h1 := pFields_wt ver flex fs 0 t
  have h2 := pTail_wt flex t
  unfold pPart
  rw [List.length_append, Nat.add_mul]
  omega
end Go.Proofs.YtmpilpgabelmiaaGreatDoor

/- A tree that came in, as the walks take it. -/
namespace Go.Proofs.YtmpilpgabelmiaaGreatDoor
open Go Go.RowKit Go.ChangeShapes

theorem cellsU8 : Tryz.prog.cellsOf 5 = 1 := by kernel_rfl
theorem cellsU32 : Tryz.prog.cellsOf 66 = 1 := by kernel_rfl
theorem cellsI64 : Tryz.prog.cellsOf 2 = 1 := by kernel_rfl
theorem cellsBo : Tryz.prog.cellsOf 4 = 1 := by kernel_rfl
theorem cellsSl : Tryz.prog.cellsOf 22 = 1 := by kernel_rfl
theorem cellsSlT : Tryz.prog.cellsOf 23 = 1 := by kernel_rfl
theorem cellsSlU : Tryz.prog.cellsOf 24 = 1 := by kernel_rfl
theorem cellsTag : Tryz.prog.cellsOf 68 = 2 := by kernel_rfl
theorem cellsTree : Tryz.prog.cellsOf 26 = 5 := by kernel_rfl
theorem wfU32 {z : Int} (h : (Lit.int .u32 z).wf = true) : 0 ≤ z ∧ z ≤ 4294967295 := by
  simp [Lit.wf, IntKind.min, IntKind.max, IntKind.signed, IntKind.bits] at h
  omega
theorem wfI64 {z : Int} (h : (Lit.int .i64 z).wf = true) : -9223372036854775808 ≤ z ∧ z ≤ 9223372036854775807 := by
  simp [Lit.wf, IntKind.min, IntKind.max, IntKind.signed, IntKind.bits] at h
  omega
theorem pick {α : Type} [Inhabited α] {n : Nat} {p : Nat → α → Prop} (h : ∀ i, i < n → ∃ x, p i x) : ∃ f : Nat → α, ∀ i, i < n → p i (f i) := by
  refine ⟨fun i => if hi : i < n then Classical.choose (h i hi) else default, fun i hi => ?_⟩
  show p i (if hi : i < n then Classical.choose (h i hi) else default)
  rw [dif_pos hi]
  exact Classical.choose_spec (h i hi)

theorem list2 {α : Type} {l : List α} (h : l.length = 2) : ∃ a b, l = [a, b] := by
  match l, h with
  | [a, b], _ => exact ⟨a, b, rfl⟩
theorem list5 {α : Type} {l : List α} (h : l.length = 5) : ∃ a b c d e, l = [a, b, c, d, e] := by
  match l, h with
  | [a, b, c, d, e], _ => exact ⟨a, b, c, d, e, rfl⟩
theorem bulk_one {H : Type} (d : DataW H) : 1 ≤ Rows.uptoBulk d := by
  cases d with
  | lit l => cases l <;> simp [Rows.uptoBulk]
  | nil => simp [Rows.uptoBulk]
  | ptr d => simp [Rows.uptoBulk]
  | slice elems spare => simp [Rows.uptoBulk]
  | agg parts => simp [Rows.uptoBulk]
  | iface t d => simp [Rows.uptoBulk]
  | map entries => simp [Rows.uptoBulk]
  | held h => simp [Rows.uptoBulk]
theorem bulk_length {H : Type} : ∀ l : List (DataW H), l.length ≤ Rows.uptoBulkAll l
  | [] => by simp [Rows.uptoBulkAll]
  | x :: r => by
    have h1 := bulk_one x
    have h2 := bulk_length r
    simp only [Rows.uptoBulkAll, List.length_cons]
    omega
theorem bulk_sum {H α : Type} (f : α → Nat) : ∀ (n : Nat) (g : Nat → α) (elems : List (DataW H × List MemPlace)), elems.length = n → (∀ i (hi : i < elems.length), f (g i) ≤ Rows.uptoBulk (elems[i]).1) →
    (((List.range n).map g).map f).sum ≤ Rows.uptoBulkAll (elems.map (·.1))
  | 0, g, elems, _, _ => by simp
  | n + 1, g, [], h, _ => by simp at h
  | n + 1, g, x :: r, h, hf => by
    have ih := bulk_sum f n (fun i => g (i + 1)) r (by simpa using h) (fun i hi => hf (i + 1) (by simpa using hi))
    have h0 := hf 0 (by simp)
    simp only [List.getElem_cons_zero] at h0
    rw [List.range_succ_eq_map]
    simp only [List.map_cons, List.map_map, List.sum_cons, Rows.uptoBulkAll] at ih ⊢
    have e : (f ∘ fun i => g (i + 1)) = (f ∘ g ∘ Nat.succ) := rfl
    rw [e] at ih
    have e2 : ((List.range n).map (f ∘ g ∘ Nat.succ)).sum = ((List.range n).map ((f ∘ g) ∘ Nat.succ)).sum := rfl
    omega
theorem wtU_sum : ∀ u : List (Nat × List UInt8), wtU u = (u.map fun t => 1 + t.2.length).sum
  | [] => rfl
  | t :: r => by simp only [wtU, List.map_cons, List.sum_cons, wtU_sum r]
theorem wts_sum : ∀ l : List Tree, wts l = (l.map Tree.wt).sum
  | [] => rfl
  | t :: r => by simp only [wts, List.map_cons, List.sum_cons, wts_sum r]

section
variable {H : Type} {enc : TypeId × Value → H} {W : World} {held : Bool}
theorem rl_open {n : Nat} {cs : List Value} {x : DataW H × List MemPlace} (h : DataW.trod enc Tryz.prog W 0 (fun _ => true) held n 22 cs = some x) : ∃ v bs, cs = [v] ∧ RL W.heap.size W v bs ∧ bs.length + 1 ≤ Rows.uptoBulk x.1 := by
  rcases open_ints Tryz.underlying22 Tryz.underlying5 cellsU8 h with ⟨rfl, -⟩ | ⟨a, len, cap, zs, rfl, _, hl, hm, hz, hx, hcell, hwz⟩
  · exact ⟨_, [], rfl, RL.nil _ _, by have := bulk_one x.1; simpa using this⟩
  · simp only [if_true] at hz
    obtain ⟨bs, hbl, hb⟩ := rb_of_ints hl hm (by omega) hcell hwz
    refine ⟨_, bs, rfl, hb.rl, ?_⟩
    rw [hx]
    have := bulk_length (lits (H := H) .u8 (zs.take len))
    simp only [lits, List.length_map, List.length_take] at this
    simp only [Rows.uptoBulk, lits]
    omega
theorem tag_open {n : Nat} {cs : List Value} {x : DataW H × List MemPlace} (h : DataW.trod enc Tryz.prog W 0 (fun _ => true) held n 68 cs = some x) :
    ∃ (k : Nat) (v : Value) (bs : List UInt8), cs = [.int .u32 (k : Int), v] ∧ k ≤ 4294967295 ∧ RL W.heap.size W v bs ∧ 1 + bs.length ≤ Rows.uptoBulk x.1 := by
  obtain ⟨xs, m, -, hxe, hl, hlen, hf⟩ := DataW.trod_struct Tryz.underlying68 h
  rw [cellsTag] at hl
  obtain ⟨y0, y1, rfl⟩ := list2 (show xs.length = 2 from hlen)
  obtain ⟨c0, c1, rfl⟩ := list2 hl
  have h0 : DataW.trod enc Tryz.prog W 0 (fun _ => true) held m 66 (List.take (Tryz.prog.cellsOf 66) (List.drop 0 [c0, c1])) = some y0 := hf 0 _ rfl
  have h1 : DataW.trod enc Tryz.prog W 0 (fun _ => true) held m 22 (List.take (Tryz.prog.cellsOf 22) (List.drop 1 [c0, c1])) = some y1 := hf 1 _ rfl
  rw [cellsU32] at h0
  rw [cellsSl] at h1
  obtain ⟨z, e0, -, hw⟩ := DataW.trod_int Tryz.underlying66 h0
  obtain ⟨v, bs, e1, hr, hbk⟩ := rl_open h1
  obtain rfl : c0 = .int .u32 z := by simpa using e0
  obtain rfl : c1 = v := by simpa using e1
  have hb := wfU32 hw
  refine ⟨z.toNat, c1, bs, by rw [Int.toNat_of_nonneg hb.1], by omega, hr, ?_⟩
  rw [hxe]
  simp only [List.map_cons, List.map_nil, Rows.uptoBulk, Rows.uptoBulkAll]
  omega
theorem add_none {b o i : Nat} {s : Option Nat} (h : s = none) : (⟨b, o, none⟩ : Addr).add i = ⟨b, o + i, none⟩ := by rw [Addr.add_lit]
theorem plain_of_cell {a : Addr} {v : Value} (h : W.cell? a = some v) : ∃ b o, a = ⟨b, o, none⟩ ∧ b < W.heap.size := by
  have hs := World.cell?_spot h
  have hb := World.block_lt_of_cell? _ _ h
  obtain ⟨b, o, s⟩ := a
  exact ⟨b, o, by cases hs; rfl, hb⟩
theorem tags_open {n : Nat} {cs : List Value} {x : DataW H × List MemPlace} (h : DataW.trod enc Tryz.prog W 0 (fun _ => true) held n 24 cs = some x) : ∃ v u, cs = [v] ∧ RepU W.heap.size W u v ∧ wtU u + 1 ≤ Rows.uptoBulk x.1 := by
  rcases DataW.trod_slice Tryz.underlying24 h with ⟨rfl, -⟩ | ⟨a, len, cap, elems, rest, m, -, rfl, hxe, -, hl, hm, hlen, hel, -, -⟩
  · exact ⟨_, [], rfl, ⟨none, 0, rfl, Nat.le_refl _, by omega, fun h => absurd rfl h⟩, by have := bulk_one x.1; simpa [wtU] using this⟩
  rw [cellsTag] at hel
  have each : ∀ i, i < len → ∃ t : Nat × Value × List UInt8, W.cells? 0 (a.add (i * 2)) 2 = some [.int .u32 (t.1 : Int), t.2.1] ∧ t.1 ≤ 4294967295 ∧ RL W.heap.size W t.2.1 t.2.2 ∧ ∀ hi : i < elems.length, 1 + t.2.2.length ≤ Rows.uptoBulk (elems[i]).1 := by
    intro i hi
    have h1 := hel i hi
    rw [List.getElem?_eq_getElem (by omega), Option.bind_eq_some_iff] at h1
    obtain ⟨c, hc, ht⟩ := h1
    obtain ⟨k, v, bs, rfl, hk, hr, hbk⟩ := tag_open ht
    exact ⟨(k, v, bs), hc, hk, hr, fun _ => hbk⟩
  haveI : Inhabited (Nat × Value × List UInt8) := ⟨(0, .slice none 0 0, [])⟩
  obtain ⟨f, hf⟩ := pick each
  refine ⟨_, (List.range len).map fun i => ((f i).1, (f i).2.2), rfl, ⟨some a, cap, by simp, by simpa using hl, by unfold maxLen at hm; omega, fun hne => ?_⟩, ?_⟩
  rotate_left
  · have h := bulk_sum (fun t : Nat × List UInt8 => 1 + t.2.length) len (fun i => ((f i).1, (f i).2.2)) elems hlen (fun i hi => (hf i (by omega)).2.2.2 hi)
    rw [wtU_sum, hxe]
    simp only [Rows.uptoBulk]
    omega
  have h0 : 0 < len := by
    rcases Nat.eq_zero_or_pos len with h | h
    · subst h; simp at hne
    · exact h
  obtain ⟨-, -, hc0⟩ := World.cells?_some (hf 0 h0).1
  have c00 := hc0 0 (by omega)
  have hp : ∃ p q, a = ⟨p, q, none⟩ ∧ p < W.heap.size := by
    obtain ⟨p, q, s⟩ := a
    have hs := World.cell?_spot c00
    have hb := World.block_lt_of_cell? _ _ c00
    simp only [Addr.add] at hs hb
    cases s with
    | none => exact ⟨p, q, rfl, by simpa [Addr.add] using hb⟩
    | some s => simp at hs
  obtain ⟨p, q, rfl, hpl⟩ := hp
  refine ⟨p, q, rfl, hpl, fun i kv hi => ?_⟩
  simp only [List.getElem?_map] at hi
  have hil : i < len := by
    rcases Nat.lt_or_ge i len with h | h
    · exact h
    · simp [List.getElem?_eq_none (by simpa using h : (List.range len).length ≤ i)] at hi
  simp only [List.getElem?_range hil, Option.map_some, Option.some.injEq] at hi
  subst hi
  obtain ⟨h1, h2, h3, -⟩ := hf i hil
  obtain ⟨-, -, hc⟩ := World.cells?_some h1
  have k0 := hc 0 (by omega)
  have k1 := hc 1 (by omega)
  simp only [Addr.add_lit, List.getElem?_cons_zero, List.getElem?_cons_succ] at k0 k1
  rw [Nat.mul_comm i 2] at k0 k1
  exact ⟨k0, h2, _, k1, h3⟩
theorem tree_open : ∀ (n : Nat) {cs : List Value} {x : DataW H × List MemPlace}, DataW.trod enc Tryz.prog W 0 (fun _ => true) held n 26 cs = some x → ∃ t, RepT W.heap.size W cs t ∧ t.wt ≤ Rows.uptoBulk x.1 := by
  intro n
  induction n using Nat.strongRecOn with
  | _ n ih =>
  intro cs x h
  obtain ⟨xs, m, hn, hxe, hl, hlen, hf⟩ := DataW.trod_struct Tryz.underlying26 h
  rw [cellsTree] at hl
  obtain ⟨y0, y1, y2, y3, y4, rfl⟩ := list5 (show xs.length = 5 from hlen)
  obtain ⟨c0, c1, c2, c3, c4, rfl⟩ := list5 hl
  have h0 : DataW.trod enc Tryz.prog W 0 (fun _ => true) held m 2 (List.take (Tryz.prog.cellsOf 2) (List.drop 0 [c0, c1, c2, c3, c4])) = some y0 := hf 0 _ rfl
  have h1 : DataW.trod enc Tryz.prog W 0 (fun _ => true) held m 22 (List.take (Tryz.prog.cellsOf 22) (List.drop 1 [c0, c1, c2, c3, c4])) = some y1 := hf 1 _ rfl
  have h2 : DataW.trod enc Tryz.prog W 0 (fun _ => true) held m 4 (List.take (Tryz.prog.cellsOf 4) (List.drop 2 [c0, c1, c2, c3, c4])) = some y2 := hf 2 _ rfl
  have h3 : DataW.trod enc Tryz.prog W 0 (fun _ => true) held m 23 (List.take (Tryz.prog.cellsOf 23) (List.drop 3 [c0, c1, c2, c3, c4])) = some y3 := hf 3 _ rfl
  have h4 : DataW.trod enc Tryz.prog W 0 (fun _ => true) held m 24 (List.take (Tryz.prog.cellsOf 24) (List.drop 4 [c0, c1, c2, c3, c4])) = some y4 := hf 4 _ rfl
  rw [cellsI64] at h0
  rw [cellsSl] at h1
  rw [cellsBo] at h2
  rw [cellsSlT] at h3
  rw [cellsSlU] at h4
  obtain ⟨z, e0, -, hw⟩ := DataW.trod_int Tryz.underlying2 h0
  obtain ⟨sv, s, e1, hs, bs1⟩ := rl_open h1
  obtain ⟨bo, e2, -⟩ := DataW.trod_bool Tryz.underlying4 h2
  obtain ⟨uv, u, e4, hu, bs4⟩ := tags_open h4
  obtain rfl : c0 = .int .i64 z := by simpa using e0
  obtain rfl : c1 = sv := by simpa using e1
  obtain rfl : c2 = .bool bo := by simpa using e2
  obtain rfl : c4 = uv := by simpa using e4
  have hb := wfI64 hw
  have hsum : ∀ z3 : Nat, z3 + 1 ≤ Rows.uptoBulk y3.1 → 1 + s.length + z3 + wtU u ≤ Rows.uptoBulk x.1 := by
    intro z3 h3
    rw [hxe]
    simp only [List.map_cons, List.map_nil, Rows.uptoBulk, Rows.uptoBulkAll]
    omega
  rcases DataW.trod_slice Tryz.underlying23 h3 with ⟨e3, -⟩ | ⟨a, len, cap, elems, rest, m', hm', e3, hxe3, -, hlc, hm, hle, hel, -, -⟩
  · obtain rfl : c3 = .slice none 0 0 := by simpa using e3
    refine ⟨.mk z s bo [] u, .mk z s bo [] u _ _ none 0 (fun _ => []) hb hs hu (by simp) (fun h => absurd rfl h) (fun i t h => by simp at h), ?_⟩
    have := hsum 0 (by have := bulk_one y3.1; omega)
    simp only [Tree.wt, wts]
    omega
  obtain rfl : c3 = .slice (some a) len cap := by simpa using e3
  rw [cellsTree] at hel
  have each : ∀ i, i < len → ∃ t : List Value × Tree, W.cells? 0 (a.add (i * 5)) 5 = some t.1 ∧ RepT W.heap.size W t.1 t.2 ∧ ∀ hi : i < elems.length, t.2.wt ≤ Rows.uptoBulk (elems[i]).1 := by
    intro i hi
    have h1 := hel i hi
    rw [List.getElem?_eq_getElem (by omega), Option.bind_eq_some_iff] at h1
    obtain ⟨c, hc, ht⟩ := h1
    obtain ⟨t, hr, hw⟩ := ih m' (by omega) ht
    exact ⟨(c, t), hc, hr, fun _ => hw⟩
  haveI : Inhabited (List Value × Tree) := ⟨([], .zero)⟩
  obtain ⟨f, hf⟩ := pick each
  have hL : ((List.range len).map fun i => (f i).2).length = len := by simp
  have hcells : ∀ i, i < len → (f i).1.length = 5 ∧ ∀ j, j < 5 → W.cell? ((a.add (i * 5)).add j) = (f i).1[j]? := fun i hi => by
    obtain ⟨-, h1, h2⟩ := World.cells?_some (hf i hi).1
    exact ⟨h1, h2⟩
  have hget : ∀ i t, ((List.range len).map fun i => (f i).2)[i]? = some t → i < len ∧ t = (f i).2 := by
    intro i t hi
    simp only [List.getElem?_map] at hi
    have hil : i < len := by
      rcases Nat.lt_or_ge i len with h | h
      · exact h
      · simp [List.getElem?_eq_none (by simpa using h : (List.range len).length ≤ i)] at hi
    simp only [List.getElem?_range hil, Option.map_some, Option.some.injEq] at hi
    exact ⟨hil, hi.symm⟩
  have R := RepT.mk (B := W.heap.size) (w := W) z s bo ((List.range len).map fun i => (f i).2) u c1 c4 (some a) cap (fun i => (f i).1) hb hs hu (by rw [hL]; exact ⟨hlc, by unfold maxLen at hm; omega⟩)
  rw [hL] at R
  refine ⟨_, R (fun hne => ?_) (fun i t hi => ?_), ?_⟩
  rotate_left 2
  · have h := bulk_sum Tree.wt len (fun i => (f i).2) elems hle (fun i hi => (hf i (by omega)).2.2 hi)
    rw [← wts_sum] at h
    have := hsum (wts ((List.range len).map fun i => (f i).2)) (by rw [hxe3]; simp only [Rows.uptoBulk]; omega)
    simp only [Tree.wt]
    omega
  · have h0 : 0 < len := by
      rcases Nat.eq_zero_or_pos len with h | h
      · subst h; simp at hne
      · exact h
    obtain ⟨hl0, hc0⟩ := hcells 0 h0
    have c00 := hc0 0 (by omega)
    rw [List.getElem?_eq_getElem (by omega)] at c00
    have hp : ∃ p q, a = ⟨p, q, none⟩ ∧ p < W.heap.size := by
      obtain ⟨p, q, s⟩ := a
      have hs := World.cell?_spot c00
      have hb := World.block_lt_of_cell? _ _ c00
      cases s with
      | none => exact ⟨p, q, rfl, by simpa [Addr.add] using hb⟩
      | some s => simp [Addr.add] at hs
    obtain ⟨p, q, rfl, hpl⟩ := hp
    refine ⟨p, q, rfl, hpl, fun i hi => ⟨(hcells i hi).1, fun j v hj => ?_⟩⟩
    have hj5 : j < 5 := by
      have h1 := (List.getElem?_eq_some_iff.1 hj).1
      have h2 := (hcells i hi).1
      omega
    have := (hcells i hi).2 j hj5
    rw [Addr.add_lit, Addr.add_lit, Nat.mul_comm i 5] at this
    exact this.trans hj
  · obtain ⟨hil, rfl⟩ := hget i t hi
    exact (hf i hil).2.1
end
theorem RepU.keys {B : Nat} {w : World} {u : List (Nat × List UInt8)} {v : Value} (h : RepU B w u v) : ∀ kv ∈ u, kv.1 ≤ 4294967295 := by
  intro kv hm
  obtain ⟨a, cap, -, -, -, hr⟩ := h
  obtain ⟨p, q, -, -, hc⟩ := hr (by intro e; rw [e] at hm; cases hm)
  obtain ⟨i, hi⟩ := List.getElem?_of_mem hm
  exact (hc i kv hi).2.1
theorem RepT.tw {B : Nat} {w : World} {c : List Value} {t : Tree} (h : RepT B w c t) : TW t := by
  induction h with
  | mk n s null l u sv uv a cap f hn hs hu hcap hl hf ih =>
    refine .mk n s null l u hu.keys fun t ht => ?_
    obtain ⟨i, hi⟩ := List.getElem?_of_mem ht
    exact ih i t hi
end Go.Proofs.YtmpilpgabelmiaaGreatDoor

/- What the reference writes of a tree is read, written the same; what is cut of it is not read. No program in sight. -/
namespace Go.Proofs.YtmpilpgabelmiaaGreatDoor

theorem treeRd {ver : Int} {flex : Bool} {s : Sch} {fs : PFs} (hok : okS ver flex s = true) (hag : agree ver flex s false 0 (-1) 0 fs = true) (t : Tree) (ht : TW t) :
    ∃ gv, rd ver flex s (pPart ver flex fs t) = some (gv, []) ∧ ap ver flex s gv = pPart ver flex fs t ∧ ∀ n, n < (pPart ver flex fs t).length → rd ver flex s ((pPart ver flex fs t).take n) = none := by
  have e : pPart ver flex fs t = ap ver flex s (gvS ver flex s (-1) fs 0 t) := (gv_ap ver flex s false 0 (-1) 0 fs hag).2 rfl 0 t
  obtain ⟨v', -, h2, h3⟩ := rd_ap ver flex s _ hok (gv_wf ver flex s false 0 (-1) 0 fs hag 0 t ht)
  rw [← e] at h2 h3
  refine ⟨v', ?_, h2, fun n hn => cut_none (Mono.rd ver flex s) h3 hn⟩
  have := h3 []
  rwa [List.append_nil] at this
end Go.Proofs.YtmpilpgabelmiaaGreatDoor

/- What againgen.py's texts lean on. -/
namespace Go.Proofs.YtmpilpgabelmiaaGreatDoor
open Go Go.RowKit

theorem RepU.upB {B B' : Nat} {w : World} {u : List (Nat × List UInt8)} {v : Value} (h : RepU B w u v) (hB : B ≤ B') : RepU B' w u v := by
  obtain ⟨a, cap, hv, h1, h2, hr⟩ := h
  refine ⟨a, cap, hv, h1, h2, fun hn => ?_⟩
  obtain ⟨p, q, ha, hp, hc⟩ := hr hn
  refine ⟨p, q, ha, by omega, fun i kv hi => ?_⟩
  obtain ⟨c0, hk, x, c1, hx⟩ := hc i kv hi
  exact ⟨c0, hk, x, c1, hx.mono hB⟩
theorem RepT.upB {B B' : Nat} {w : World} (hB : B ≤ B') {c : List Value} {t : Tree} (h : RepT B w c t) : RepT B' w c t := by
  induction h with
  | mk n s null l u sv uv a cap f hn hs hu hcap hl hf ih =>
    refine .mk n s null l u sv uv a cap f hn (hs.mono hB) (hu.upB hB) hcap (fun hne => ?_) ih
    obtain ⟨p, q, ha, hp, h⟩ := hl hne
    exact ⟨p, q, ha, by omega, h⟩
theorem RB.cut {O : List Nat} {w : World} {a : Option Addr} {n cap k : Nat} {bs : List UInt8} (h : RB O w (.slice a n cap) bs) (hk : k ≤ bs.length) : RB O w (.slice a k cap) (bs.take k) := by
  obtain ⟨a', cap', hv, h1, h2, h3⟩ := h
  cases hv
  have hl : (bs.take k).length = k := by rw [List.length_take]; omega
  refine ⟨a, cap, by rw [hl], by omega, h2, fun hne => ?_⟩
  obtain ⟨b, o, ha, hb, hc⟩ := h3 (by intro e; subst e; simp at hne)
  refine ⟨b, o, ha, hb, fun i u hi => hc i u ?_⟩
  rw [List.getElem?_take] at hi
  split at hi
  · exact hi
  · cases hi
theorem RB.drew {O : List Nat} {w : World} {v : Value} {bs : List UInt8} (h : RB O w v bs) : RB O w.drew v bs := h
end Go.Proofs.YtmpilpgabelmiaaGreatDoor

/- Known tags, read: a tag laid into a part's own map; the reader of a tag's octets. -/
namespace Go.Proofs.YtmpilpgabelmiaaGreatDoor
open Go Go.RowKit Go.Maps
set_option linter.unusedVariables false

theorem set_same {α : Type} : ∀ {cs : List α} {q : Nat} {x : α}, cs[q]? = some x → cs.set q x = cs
  | [], q, x, h => by simp at h
  | c :: cs, 0, x, h => by
    simp only [List.getElem?_cons_zero, Option.some.injEq] at h
    rw [h]
    rfl
  | c :: cs, q + 1, x, h => by
    rw [List.set_cons_succ, set_same (cs := cs) (by simpa using h)]
set_option maxHeartbeats 1000000 in
theorem tagsSetAt (w : World) (p q T : Nat) (cs : List Value) (m : Option Nat) (n : Nat) (D : VD) (k : Nat) (v : Value) (hB : Blk w p cs T) (hq : cs[q]? = some (.map m)) (hm : MapAt w m n D) (hn : n < maxLen) (hk : k ≤ 4294967295) (hp : ∀ g, m = some g → g ≠ p) :
    Calls Tryz.prog 73 #[.pointer (some ⟨p, q, none⟩), .int .u32 (k : Nat), v] w fun e w' => e = .returned (.tuple #[]) ∧ ∃ g, Blk w' p (cs.set q (.map (some g))) T ∧ w'.ownsMap Tryz.prog 66 R0 g (n + 1) (D.put (kl32 k) (.held v)) ∧ ((m = some g ∧ Keeps [g] w w') ∨ (m = none ∧ g = w.heap.size ∧ Keeps [p] w w')) := by
  have hkey := keyOf_int_mk Tryz.underlying66 (kl32_wf hk)
  have m0 := hB.cell_some hq
  have f0 := hB.frozen q
  have qT : ∀ (w : World) (r : Option Nat), (binOp .eql 51 (.map r) (.map none)).run Tryz.prog w = .ok (.bool r.isNone) w := fun w r => run_eql_map_nil w _ _ _ r Tryz.underlying51
  cases m with
  | some g =>
    have hown : w.ownsMap Tryz.prog 66 R0 g n D := hm
    have hgp := hp g rfl
    have hss := set_same hq
    clear hm hp
    have HB := Lib.hid (And.intro hB hss)
    clear hB hq hss
    go_enter Tryz.func73, Tryz.ntmps73
    go_wp2_with (first
      | (at_mapUpdate; refine wpList_mapUpdate_own _ rfl _ _ _ 51 rfl 66 22 tagKeyed Tryz.underlying51 _ g n D rfl hown hn _ _ _ rfl rfl hkey _ [] rfl ?_; intro w1 hown1 hgrow1)
      | go_in)
    go_end0
    have hk1 : Keeps [g] w w1 := (Keeps.refl [g] w).grown hgrow1 (fun j hj => .inl (by cases hj; simp))
    exact ⟨rfl, g, by rw [HB.out.2]; exact HB.out.1.keeps hk1 (by simpa using fun e => hgp e.symm), hown1, rfl, hk1⟩
  | none =>
    cases hm
    have hlt := hB.lt
    have hsz : (w.setCell ⟨p, q, none⟩ (.map (some w.heap.size))).heap.size = w.heap.size := by simp [World.setCell]
    have hown : ((w.setCell ⟨p, q, none⟩ (.map (some w.heap.size))).alloc (.map #[] 0)).ownsMap Tryz.prog 66 R0 w.heap.size 0 (.map []) := by
      have h := World.ownsMap_made (H := Value) (w.setCell ⟨p, q, none⟩ (.map (some w.heap.size))) Tryz.prog 66 R0
      rwa [hsz] at h
    have h0 : 0 < maxLen := by unfold maxLen; omega
    have hmm := @run_makeMap Tryz.prog
    have HB := Lib.hid hB
    have HO := Lib.hid (And.intro h0 hown)
    clear hB hp h0 hown hsz hq
    go_enter Tryz.func73, Tryz.ntmps73
    go_wp2_with (first
      | (at_mapUpdate; refine wpList_mapUpdate_own _ rfl _ _ _ 51 rfl 66 22 tagKeyed Tryz.underlying51 _ w.heap.size 0 _ rfl HO.out.2 HO.out.1 _ _ _ rfl rfl hkey _ [] rfl ?_; intro w1 hown1 hgrow1)
      | go_in)
    go_end0
    have hB1 : Blk ((w.setCell ⟨p, q, none⟩ (.map (some w.heap.size))).alloc (.map #[] 0)) p (cs.set q (.map (some w.heap.size))) T := (HB.out.set q _).keeps ((Keeps.refl [] _).alloc _) (by simp)
    have hk0 : Keeps [p] w ((w.setCell ⟨p, q, none⟩ (.map (some w.heap.size))).alloc (.map #[] 0)) := ((Keeps.refl [p] w).setCell (by simp) _).alloc _
    have hk1 : Keeps [w.heap.size] ((w.setCell ⟨p, q, none⟩ (.map (some w.heap.size))).alloc (.map #[] 0)) w1 := (Keeps.refl _ _).grown hgrow1 (fun j hj => .inl (by cases hj; simp))
    exact ⟨rfl, w.heap.size, hB1.keeps hk1 (by simp; omega), hown1.mono (by omega), rfl, ((hk0.mono (O' := [w.heap.size, p]) (by simp)).trans (hk1.mono (by simp))).close (Nat.le_refl _)⟩

/-- The blocks that are open while tags are read: the map, once there is one. -/
def mO (m : Option Nat) (O : List Nat) : List Nat := match m with
  | none => O
  | some g => g :: O
theorem mem_mO {m : Option Nat} {O : List Nat} {k : Nat} : k ∈ mO m O ↔ m = some k ∨ k ∈ O := by
  cases m with
  | none => simp [mO]
  | some g => simp [mO, eq_comm]
theorem mO_sub {m : Option Nat} {O : List Nat} {k : Nat} (h : k ∈ O) : k ∈ mO m O := mem_mO.2 (.inr h)

section
variable {gE : Nat} {E : Value}
/-- What the tag that is laid into the map leaves. -/
structure SetOut (gE : Nat) (E : Value) (O : List Nat) (rb b T q : Nat) (m : Option Nat) (D : VD) (k : Nat) (v : Value) (n : Nat) (st : Option (List UInt8)) (cs : List Value) (w w' : World) (g : Nat) : Prop where
  rst : RSt gE E (mO (some g) O) w' rb b (cs.set q (.map (some g))) T st
  own : w'.ownsMap Tryz.prog 66 R0 g (n + 1) (D.put (kl32 k) (.held v))
  new : m = some g ∨ (m = none ∧ g = w.heap.size)
  keeps : Keeps [g, b] w w'
  rb : ∀ {x : Value} {s : List UInt8}, RB (mO m O) w x s → RB (mO (some g) O) w' x s
theorem setOut {O : List Nat} {rb b T q k n g : Nat} {m : Option Nat} {D : VD} {v : Value} {st : Option (List UInt8)} {cs : List Value} {w w' : World} (h : RSt gE E (mO m O) w rb b cs T st)
    (hg : ∀ g, m = some g → g ≠ rb ∧ g ≠ b ∧ g ≠ gE)
    (hb : Blk w' b (cs.set q (.map (some g))) T) (ho : w'.ownsMap Tryz.prog 66 R0 g (n + 1) (D.put (kl32 k) (.held v))) (hf : (m = some g ∧ Keeps [g] w w') ∨ (m = none ∧ g = w.heap.size ∧ Keeps [b] w w')) : SetOut gE E O rb b T q m D k v n st cs w w' g := by
  have hk : Keeps [g, b] w w' := by
    rcases hf with ⟨-, hk⟩ | ⟨-, -, hk⟩
    · exact hk.mono (by simp)
    · exact hk.mono (by simp)
  have hrbl := h.lt rb h.rbO
  have hbl := h.lt b h.bO
  have hgl : gE < w.heap.size := World.block_lt_of_cell? w _ h.glob
  have hgne : g ≠ rb ∧ g ≠ b ∧ g ≠ gE := by
    rcases hf with ⟨hm, -⟩ | ⟨-, hg', -⟩
    · exact hg g hm
    · exact ⟨by omega, by omega, by omega⟩
  have hrbO : rb ∈ O := by
    rcases mem_mO.1 h.rbO with hm | hm
    · exact absurd rfl (hg rb hm).1
    · exact hm
  have hbO : b ∈ O := by
    rcases mem_mO.1 h.bO with hm | hm
    · exact absurd rfl (hg b hm).2.1
    · exact hm
  have hsub : ∀ k, k ∈ [g, b] → k ∈ mO (some g) O := by
    intro k hk
    simp only [List.mem_cons, List.not_mem_nil, or_false] at hk
    rcases hk with rfl | rfl
    · exact mem_mO.2 (.inl rfl)
    · exact mO_sub hbO
  refine ⟨⟨?_, hb, mO_sub hrbO, mO_sub hbO, h.ne, ?_, ?_, ?_⟩, ho, ?_, hk, ?_⟩
  · have h4 : Rdr (mO (some g) O) w rb st := by
      rcases hf with ⟨hm, -⟩ | ⟨hm, hg', -⟩
      · rw [← hm]; exact h.rdr
      · subst hm; exact h.rdr.open (by omega)
    exact h4.other hk (by simp only [List.mem_cons, List.not_mem_nil, or_false, not_or]; exact ⟨fun e => hgne.1 e.symm, fun e => h.ne e.symm⟩) hsub
  · intro j hj
    rcases mem_mO.1 hj with hj | hj
    · cases hj
      exact World.ownsMap.lt ho
    · exact Nat.lt_of_lt_of_le (h.lt j (mO_sub hj)) hk.size
  · exact (World.cell?_of_block (hk.block gE hgl (by simp only [List.mem_cons, List.not_mem_nil, or_false, not_or]; exact ⟨fun e => hgne.2.2 e.symm, fun e => h.gO (e ▸ h.bO)⟩))).trans h.glob
  · intro hj
    rcases mem_mO.1 hj with hj | hj
    · cases hj
      exact hgne.2.2 rfl
    · exact h.gO (mO_sub hj)
  · rcases hf with ⟨hm, -⟩ | ⟨hm, hg', -⟩
    · exact .inl hm
    · exact .inr ⟨hm, hg'⟩
  · intro x s hs
    have hs4 : RB (mO (some g) O) w x s := by
      rcases hf with ⟨hm, -⟩ | ⟨hm, hg', -⟩
      · rw [← hm]; exact hs
      · subst hm; exact hs.openNew (by omega)
    exact hs4.keeps (hk.mono hsub)
end
end Go.Proofs.YtmpilpgabelmiaaGreatDoor

/- Known tags, read: the number of a tag; the reader of its octets; its field, with what follows; whether all went well. -/
namespace Go.Proofs.YtmpilpgabelmiaaGreatDoor
open Go Go.RowKit Go.Maps
set_option linter.unusedVariables false

theorem uvVal0 {O : List Nat} {rb : Nat} {w : World} {st : Option (List UInt8)} {e : Ending} {w' : World} (h : RdPost rdUv (fun _ _ v n => v = .int .u32 (n : Nat)) (fun v => v = .int .u32 0) O rb w st e w') :
    ∃ k : Nat, e = .returned (.int .u32 (k : Nat)) ∧ k ≤ 4294967295 ∧ Rdr O w' rb ((st.bind rdUv).map (·.2)) ∧ Keeps [rb] w w' ∧ (∀ n r, st.bind rdUv = some (n, r) → n = k) ∧ (st.bind rdUv = none → k = 0) := by
  obtain ⟨v, rfl, h1, h2, h3, h4⟩ := h
  cases hx : st.bind rdUv with
  | none => exact ⟨0, by rw [h3 hx]; rfl, by omega, by rw [hx] at h1; exact h1, h2, (fun n r h => by cases h), fun _ => rfl⟩
  | some q =>
    refine ⟨q.1, by rw [h4 q.1 q.2 hx], ?_, by rw [hx] at h1; exact h1, h2, (fun n r h => by cases h; rfl), (fun h => by cases h)⟩
    cases st with
    | none => cases hx
    | some bs => exact (out_uv (r := q.2) hx).1

/-- A tag's octets. -/
def rdSp : Pr (List UInt8) := rdUv.bind fun n => rdTake n
theorem rdSp_st (st : Option (List UInt8)) (k : Nat) (hk : ∀ n r, st.bind rdUv = some (n, r) → n = k) : st.bind rdSp = (((st.bind rdUv).map (·.2)).bind (rdSpan (k : Nat))) := by
  unfold rdSp
  rw [bind_st]
  cases hx : st.bind rdUv with
  | none => rfl
  | some q =>
    have := hk q.1 q.2 hx
    subst this
    simp only [Option.bind_some, Option.map_some]
    unfold rdSpan
    rw [if_neg (by omega), Int.toNat_natCast]
theorem tag1_sp (st : Option (List UInt8)) : st.bind rdTag1 = (st.bind rdUv).bind fun a => (rdSp a.2).bind fun c => some ((a.1, c.1), c.2) := by
  unfold rdTag1
  rw [bind_st]
  congr 1
  funext a
  unfold rdSp
  cases h2 : rdUv a.2 with
  | none => rw [bind_none h2, bind_none h2]; rfl
  | some b =>
    rw [bind_eq (v := b.1) (r := b.2) h2, bind_eq (v := b.1) (r := b.2) h2]
    cases h3 : rdTake b.1 b.2 with
    | none => rw [bind_none h3]; rfl
    | some c => rw [bind_eq (v := c.1) (r := c.2) h3]; rfl

section
variable {RT : RTags} {P : Program} {N nt gE : Nat} {E : Value} {K : Slots} {lo t : Nat} {ver : Int} {flex : Bool}
/-- What is asked of Uvarint, of Span. -/
def UvC (P : Program) (F : Nat) : Prop := RdC P F rdUv (fun _ _ v n => v = .int .u32 (n : Nat)) (fun v => v = .int .u32 0)
def SpanC (P : Program) (F : Nat) : Prop := ∀ (O : List Nat) (rb : Nat) (w : World) (st : Option (List UInt8)) (l : Int), rb ∈ O → (∀ k, k ∈ O → k < w.heap.size) → Rdr O w rb st →
  Calls P F #[.pointer (some ⟨rb, 0, none⟩), .int .i64 l] w (RdPost (rdSpan l) (fun O w v s => RB O w v s) (fun v => v = .slice none 0 0) O rb w st)
/-- 'i := b.Uvarint()'. -/
theorem reg_uv {bp x t1 F r ty1 ty2 : Nat} {p1 p2 : String} {e1 e2 : Array Edge} {at_ : Array TypeId} {O : List Nat} {w : World} {rb b T : Nat} {cs : List Value} {st : Option (List UInt8)} {a : Act} {Q : Exit → Act → World → Prop} (he : Enters P F) (hC : UvC P F)
    (hN : a.tmps.size = nt) (hbp : aget a bp = .pointer (some ⟨rb, 0, none⟩)) (hst : RSt gE E O w rb b cs T st) (hD : Dims N nt lo t) (hd : t ≤ t1 ∧ t1 < nt ∧ lo ≤ x ∧ x < N)
    (hq : ∀ a' w' (k : Nat), k ≤ 4294967295 → aget a' x = .int .u32 (k : Nat) → RSt gE E O w' rb b cs T ((st.bind rdUv).map (·.2)) → Fr N lo t nt a a' → Keeps [rb] w w' → (∀ n r, st.bind rdUv = some (n, r) → n = k) → (st.bind rdUv = none → k = 0) → (∀ s, s ≠ x → s < N → aget a' s = aget a s) → Q .normal a' w') :
    (Code.region r #[⟨some t1, .call { callee := .value (.func F), args := #[.tmp bp], argTypes := at_ }, ty1, p1, e1, none⟩, ⟨some x, .assign (.tmp t1), ty2, p2, e2, none⟩] false).wp P Q a w := by
  obtain ⟨d1, d2, d3, d4⟩ := hd
  have g1 := hD.dOne; have g2 := hD.dLo; have g3 := hD.dT; have g4 := hD.dN
  refine wp_reg ?_
  refine wl_call (R := RdPost rdUv (fun _ _ v n => v = .int .u32 (n : Nat)) (fun v => v = .int .u32 0) O rb w st) he ?_ ?_
  · simp only [List.map_toArray, List.map_cons, List.map_nil, aget_eval]
    rw [hbp]
    exact hC O rb w st hst.rbO hst.lt hst.rdr
  intro e w' hp
  obtain ⟨k, rfl, h1, h2, h3, h4, h5⟩ := uvVal0 hp
  refine ⟨_, rfl, ?_⟩
  refine wl_assign (aget_put_same _ _ _ (by rw [hN]; omega)) ?_
  exact wpList_nil (hq _ _ k h1 (aget_put_same _ _ _ (by simp only [size_put]; omega)) (hst.call h2 h3) (((Fr.refl N lo t nt a).put _ _ (by omega)).put _ _ (by omega)) h3 h4 h5 (fun s h1 h2 => (aget_put_other _ _ _ _ (by omega)).trans (aget_put_other _ _ _ _ (by omega))))
theorem RSt.inner {O : List Nat} {w w' : World} {rb rb' b T : Nat} {cs : List Value} {st : Option (List UInt8)} {sv : Value} {sp : List UInt8} (h : RSt gE E O w rb b cs T st) (hk : Keeps [] w w') (hb : Blk w' rb' [sv, .bool false] 110) (hrb : w.heap.size ≤ rb') (hs : RB O w sv sp) (hl : sp.length ≤ lim) :
    RSt gE E (rb' :: O) w' rb' b cs T (some sp) ∧ Rdr (rb' :: O) w' rb st := by
  have hgl : gE < w.heap.size := World.block_lt_of_cell? w _ h.glob
  have hbl := h.lt b h.bO
  have hrl := h.lt rb h.rbO
  refine ⟨⟨⟨sv, hb, (hs.openNew hrb).keeps (hk.mono (by simp)), hl⟩, h.blk.keeps hk (by simp), by simp, List.mem_cons_of_mem _ h.bO, by omega, ?_, ?_, ?_⟩, ?_⟩
  · intro k hk'
    rcases List.mem_cons.1 hk' with rfl | hk'
    · exact hb.lt
    · exact Nat.lt_of_lt_of_le (h.lt k hk') hk.size
  · exact (World.cell?_of_block (hk.block gE hgl (by simp))).trans h.glob
  · intro hk'
    rcases List.mem_cons.1 hk' with e | hk'
    · omega
    · exact h.gO hk'
  · exact (h.rdr.open hrb).other hk (by simp) (by simp)
theorem wl_conv_u32 {I U : Nat} {w : World} {ops : Array Oper} {rest : List Oper} {a : Act} {Q : Exit → Act → World → Prop} {d s : Nat} {ty : TypeId} {pos : String} {af : Array Edge} {k : Nat} (hI : P.underlying I = some (.int .u32)) (hU : P.underlying U = some (.int .i64)) (hs : aget a s = .int .u32 (k : Nat)) (hk : k ≤ 4294967295)
    (h : wpList P ops Q rest (a.put (some d) (.int .i64 (k : Nat))) w) : wpList P ops Q (⟨some d, .convert I U (.tmp s), ty, pos, af, none⟩ :: rest) a w := by
  refine wl_value (v := .int .i64 (k : Nat)) (w' := w) rfl ?_ h
  have e2 : a.eval (.tmp s) = .int .u32 (k : Nat) := hs
  have e3 : IntKind.i64.wrap (k : Int) = k := by rw [IntKind.wrap_i64]; omega
  simp [execOp, e2, convert, run_underlying hI, run_underlying hU, Conv.intToInt, e3]
/-- 'b := Reader{Src: b.Span(int(b.Uvarint()))}'. -/
theorem reg_inner {bp ib t1 FU FS U I J r y1 y2 y3 y4 y5 y6 : Nat} {q1 q2 q3 q4 q5 q6 : String} {e1 e2 e3 e4 e5 e6 : Array Edge} {at1 at2 : Array TypeId} {O : List Nat} {w : World} {rb b T : Nat} {cs : List Value} {st : Option (List UInt8)} {a : Act} {Q : Exit → Act → World → Prop}
    (heU : Enters P FU) (hC : UvC P FU) (heS : Enters P FS) (hS : SpanC P FS) (hI : P.underlying I = some (.int .u32)) (hJ : P.underlying J = some (.int .i64)) (hU : ManyCells P U 2) (hUr : U = 110) (hB : ∀ ad n m, P.built U [(0, .slice ad n m)] = some #[.slice ad n m, .bool false])
    (hN : a.tmps.size = nt) (hbp : aget a bp = .pointer (some ⟨rb, 0, none⟩)) (hst : RSt gE E O w rb b cs T st) (hD : Dims N nt lo t) (hd : t ≤ t1 ∧ t1 + 3 < nt ∧ lo ≤ ib ∧ ib < N ∧ bp < lo)
    (hq : ∀ a' w' rb' sp, w.heap.size ≤ rb' → aget a' ib = .pointer (some ⟨rb', 0, none⟩) → RSt gE E (rb' :: O) w' rb' b cs T (some sp) → Rdr (rb' :: O) w' rb ((st.bind rdSp).map (·.2)) → Fr N lo t nt a a' → Keeps [rb] w w' → (∀ s r, st.bind rdSp = some (s, r) → s = sp) → (st.bind rdSp = none → sp = []) → Q .normal a' w') :
    (Code.region r #[⟨some t1, .call { callee := .value (.func FU), args := #[.tmp bp], argTypes := at1 }, y1, q1, e1, none⟩, ⟨some (t1 + 1), .convert I J (.tmp t1), y2, q2, e2, none⟩,
      ⟨some (t1 + 2), .call { callee := .value (.func FS), args := #[.tmp bp, .tmp (t1 + 1)], argTypes := at2 }, y3, q3, e3, none⟩, ⟨some (t1 + 3), .build U #[(0, .tmp (t1 + 2))], y4, q4, e4, none⟩, ⟨some ib, .alloc U, y5, q5, e5, none⟩,
      ⟨none, .store U (.tmp ib) (.tmp (t1 + 3)), y6, q6, e6, none⟩] false).wp P Q a w := by
  obtain ⟨d1, d2, d3, d4, d5⟩ := hd
  have g1 := hD.dOne; have g2 := hD.dLo; have g3 := hD.dT; have g4 := hD.dN
  refine wp_reg ?_
  refine wl_call (R := RdPost rdUv (fun _ _ v n => v = .int .u32 (n : Nat)) (fun v => v = .int .u32 0) O rb w st) heU ?_ ?_
  · simp only [List.map_toArray, List.map_cons, List.map_nil, aget_eval]
    rw [hbp]
    exact hC O rb w st hst.rbO hst.lt hst.rdr
  intro e w1 hp
  obtain ⟨k, rfl, hk1, hr1, hk, hv, -⟩ := uvVal0 hp
  refine ⟨_, rfl, ?_⟩
  have hst1 := hst.call hr1 hk
  refine wl_conv_u32 hI hJ (aget_put_same _ _ _ (by rw [hN]; omega)) hk1 ?_
  refine wl_call (R := RdPost (rdSpan (k : Nat)) (fun O w v s => RB O w v s) (fun v => v = .slice none 0 0) O rb w1 ((st.bind rdUv).map (·.2))) heS ?_ ?_
  · simp only [List.map_toArray, List.map_cons, List.map_nil, aget_eval]
    rw [aget_put_other _ _ _ bp (by omega), aget_put_other _ _ _ bp (by omega), hbp, aget_put_same _ _ _ (by simp only [size_put]; omega)]
    exact hS O rb w1 _ _ hst1.rbO hst1.lt hst1.rdr
  rintro en w2 ⟨v, rfl, hr2, hk2, hbad, hgood⟩
  rw [← rdSp_st st k hv] at hr2 hbad hgood
  refine ⟨_, rfl, ?_⟩
  have hst2 := hst1.call hr2 hk2
  obtain ⟨sp, hsp, hlim, hs1, hs2⟩ : ∃ sp, RB O w2 v sp ∧ sp.length ≤ lim ∧ (∀ s r, st.bind rdSp = some (s, r) → s = sp) ∧ (st.bind rdSp = none → sp = []) := by
    cases hx : st.bind rdSp with
    | none => exact ⟨[], by rw [hbad hx]; exact RB.nil _ _, by simp, (fun s r h => by cases h), fun _ => rfl⟩
    | some q =>
      refine ⟨q.1, hgood q.1 q.2 hx, ?_, (fun s r h => by cases h; rfl), (fun h => by cases h)⟩
      have hy : ((st.bind rdUv).map (·.2)).bind (rdSpan (k : Nat)) = some (q.1, q.2) := by rw [← rdSp_st st k hv]; exact hx
      cases hz : (st.bind rdUv).map (·.2) with
      | none => rw [hz] at hy; cases hy
      | some bs =>
        rw [hz] at hy
        have h1 := hst1.rdr
        rw [hz] at h1
        exact (span_out h1 hy).1
  obtain ⟨sad, scap, hsl, -⟩ : ∃ a c, v = .slice a sp.length c ∧ True := by obtain ⟨a, c, h, -⟩ := hsp; exact ⟨a, c, h, trivial⟩
  subst hsl
  refine wl_value (v := .agg #[.slice sad sp.length scap, .bool false]) (w' := w2) rfl ?_ ?_
  · have e0 : ∀ A : Act, aget A (t1 + 2) = .slice sad sp.length scap → (execOp A.eval ⟨some (t1 + 3), .build U #[(0, .tmp (t1 + 2))], y4, q4, e4, none⟩).run P w2 = .ok (.value (.agg #[.slice sad sp.length scap, .bool false])) w2 := by
      intro A hA
      have e1 : A.eval (.tmp (t1 + 2)) = .slice sad sp.length scap := hA
      have e2 := run_build (P := P) w2 U #[(0, .slice sad sp.length scap)] _ (hB sad sp.length scap)
      simp [execOp, e1, e2]
    exact e0 _ (aget_put_same _ _ _ (by simp only [size_put]; omega))
  obtain ⟨z, hz, hza⟩ := run_alloc_many (P := P) hU w2
  refine wl_value (v := .pointer (some ⟨w2.heap.size, 0, none⟩)) (w' := w2.alloc (.cells z U)) rfl (by simp [execOp, hza]) ?_
  have hg : (w2.alloc (.cells z U)).heap[w2.heap.size]? = some (.cells z U (0, 0)) := heap_alloc_new w2 _
  refine wl_store (w' := (w2.alloc (.cells z U)).setRow w2.heap.size #[.slice sad sp.length scap, .bool false]) ?_ ?_
  · rw [aget_eval, aget_eval, aget_put_same _ _ _ (by simp only [size_put]; omega), aget_put_other _ _ _ (t1 + 3) (by omega), aget_put_same _ _ _ (by simp only [size_put]; omega)]
    exact run_store_many (P := P) hU hg hz (l := [.slice sad sp.length scap, .bool false]) rfl (by simp [Value.oneCell'])
  have hblk : Blk ((w2.alloc (.cells z U)).setRow w2.heap.size #[.slice sad sp.length scap, .bool false]) w2.heap.size [.slice sad sp.length scap, .bool false] U := setRow_heap _ _ _ _ _ _ hg
  have hk0 : Keeps [] w2 ((w2.alloc (.cells z U)).setRow w2.heap.size #[.slice sad sp.length scap, .bool false]) := by
    exact Keeps.of_below (below_setRow (Below.alloc (Below.refl w2.heap.size w2) (Nat.le_refl _) (.cells z U)) (Nat.le_refl _) _) (Nat.le_refl _)
  generalize ((w2.alloc (.cells z U)).setRow w2.heap.size #[.slice sad sp.length scap, .bool false]) = w3 at *
  rw [hUr] at hblk
  obtain ⟨k1, k2⟩ := hst2.inner hk0 hblk (Nat.le_refl _) hsp hlim
  have z1 := hk.size
  have z2 := hk2.size
  refine wpList_nil (hq _ w3 w2.heap.size sp (by omega) (aget_put_same _ _ _ (by simp only [size_put]; omega)) k1 k2 ?_ ((hk.trans hk2).trans (hk0.mono (by simp))) hs1 hs2)
  exact (((((Fr.refl N lo t nt a).put _ _ (by omega)).put _ _ (by omega)).put _ _ (by omega)).put _ _ (by omega)).put _ _ (by omega)
/-- 'if err := b.Complete(); err != nil { return err }', of a tag's own reader. -/
theorem reg_err {ib x rs t1 t2 t3 F J U r r2 r3 y1 y2 y3 y4 y5 y6 : Nat} {q1 q2 q3 q4 q5 q6 : String} {e1 e2 e3 e4 e5 e6 : Array Edge} {at_ : Array TypeId} {O : List Nat} {w : World} {rb : Nat} {st : Option (List UInt8)} {a : Act} {Q : Exit → Act → World → Prop} {tE : TypeId} {vE : Value} (he : Enters P F) (hC : CompleteC P F gE E) (hE' : E = .iface tE vE)
    (hJ : ∀ w t v, (binOp .neq J (.iface t v) .nilIface).run P w = .ok (.bool true) w) (hJ0 : ∀ w, (binOp .neq J .nilIface .nilIface).run P w = .ok (.bool false) w) (hJg : ∀ x, eqGuard .neq J (.tmp t2) (.const .nilIface) x .nilIface = pure ())
    (hN : a.tmps.size = nt) (hbp : aget a ib = .pointer (some ⟨rb, 0, none⟩)) (hr : Rdr O w rb st) (hE : w.cell? ⟨gE, 0, none⟩ = some E) (hD : Dims N nt lo t) (hd : t ≤ t1 ∧ t1 < nt ∧ lo ≤ x ∧ x < N ∧ t ≤ t2 ∧ t2 + 1 < nt ∧ t3 < nt ∧ rs < nt ∧ rs ≠ x)
    (hq : ∀ a', st.isSome = true → Fr N lo t nt a a' → Q .normal a' w) (hret : ∀ a', st = none → a'.tmps.size = nt → a'.defers = a.defers → aget a' rs = E → Q .ret a' w) :
    ((Code.region r #[⟨some t1, .call { callee := .value (.func F), args := #[.tmp ib], argTypes := at_ }, y1, q1, e1, none⟩, ⟨some x, .assign (.tmp t1), y2, q2, e2, none⟩] false).seq
      ((Code.region r2 #[⟨some t2, .move (.tmp x), y3, q3, e3, none⟩, ⟨some (t2 + 1), .binOp .neq J (.tmp t2) (.const .nilIface) U, y4, q4, e4, none⟩] false).seq
      (.cond (.tmp (t2 + 1)) ((Code.region r3 #[⟨some t3, .move (.tmp x), y5, q5, e5, none⟩, ⟨some rs, .assign (.tmp t3), y6, q6, e6, none⟩] false).seq .ret) .skip))).wp P Q a w := by
  obtain ⟨d1, d2, d3, d4, d5, d6, d7, d8, d9⟩ := hd
  have g1 := hD.dOne; have g2 := hD.dLo; have g3 := hD.dT; have g4 := hD.dN
  refine wp_seq (wp_reg ?_)
  refine wl_call (R := fun e w' => e = .returned (if st.isSome then .nilIface else E) ∧ w = w') he ?_ ?_
  · simp only [List.map_toArray, List.map_cons, List.map_nil, aget_eval]
    rw [hbp]
    exact hC O rb w st hr hE
  rintro e w' ⟨rfl, rfl⟩
  refine ⟨_, rfl, ?_⟩
  refine wl_assign (aget_put_same _ _ _ (by rw [hN]; omega)) ?_
  refine wpList_nil ?_
  have f1 : Fr N lo t nt a ((a.put (some t1) (if st.isSome then .nilIface else E)).put (some x) (if st.isSome then .nilIface else E)) := ((Fr.refl N lo t nt a).put _ _ (by omega)).put _ _ (by omega)
  have x1 : aget ((a.put (some t1) (if st.isSome then .nilIface else E)).put (some x) (if st.isSome then .nilIface else E)) x = (if st.isSome then .nilIface else E) := aget_put_same _ _ _ (by simp only [size_put]; omega)
  generalize ((a.put (some t1) (if st.isSome then .nilIface else E)).put (some x) (if st.isSome then .nilIface else E)) = a1 at *
  have s1 := f1.size.trans hN
  simp only [Exit.then]
  refine wp_seq (wp_reg ?_)
  refine wl_move x1 ?_
  cases st with
  | some bs =>
    simp only [Option.isSome_some, if_true] at x1 ⊢
    refine wl_bin (r := .bool false) (aget_put_same _ _ _ (by omega)) (hJg _) (hJ0 w) ?_
    refine wpList_nil ?_
    simp only [Exit.then]
    refine wp_cond_false (aget_put_same _ _ _ (by simp only [size_put]; omega)) (wp_skip (hq _ rfl (f1.trans (((Fr.refl N lo t nt a1).put _ _ (by omega)).put _ _ (by omega)))))
  | none =>
    simp only [Option.isSome_none, Bool.false_eq_true, if_false] at x1 ⊢
    subst hE'
    refine wl_bin (r := .bool true) (aget_put_same _ _ _ (by omega)) (hJg _) (hJ w tE vE) ?_
    refine wpList_nil ?_
    simp only [Exit.then]
    refine wp_cond_true (aget_put_same _ _ _ (by simp only [size_put]; omega)) ?_
    refine wp_seq (wp_reg ?_)
    refine wl_move (v := .iface tE vE) ((aget_put_other _ _ _ _ (by omega)).trans ((aget_put_other _ _ _ _ (by omega)).trans x1)) ?_
    refine wl_assign (aget_put_same _ _ _ (by simp only [size_put]; omega)) ?_
    refine wpList_nil ?_
    simp only [Exit.then]
    refine wp_ret (hret _ rfl (by simp only [size_put]; exact s1) (by simp only [defers_put]; exact f1.defers) (aget_put_same _ _ _ (by simp only [size_put]; omega)))
end
end Go.Proofs.YtmpilpgabelmiaaGreatDoor
