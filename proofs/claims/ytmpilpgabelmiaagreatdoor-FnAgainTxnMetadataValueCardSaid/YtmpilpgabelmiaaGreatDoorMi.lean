/- Shared texts of these proofs, laid together by merge.py: Ke, Re, Kra, Krb, Krc, Krd, Kre, Krf, Krg. -/
import Derived.Test.YtmpilpgabelmiaaGreatDoorMh
import Derived.Test.YtmpilpgabelmiaaGreatDoorMf
import Derived.StillTail
set_option linter.unusedVariables false
/- What is kept: the version stands ahead, in two octets. What the reference writes of it is read and written the same; cut short it is not read. -/
namespace Go.Proofs.YtmpilpgabelmiaaGreatDoor
open Go Go.RowKit
set_option linter.unusedVariables false

theorem Mono.rdK (fl : Int → Bool) (sch : Sch) : Mono (rdK fl sch) := (Mono.int 2 32768).bind fun ver => (Mono.rd ver (fl ver) sch).bind fun _ => .pure _
theorem treeRdK {ver : Int} {fl : Int → Bool} {s : Sch} {fs : PFs} (h0 : 0 ≤ ver) (h1 : ver ≤ 32767) (hok : okS ver (fl ver) s = true) (hag : agree ver (fl ver) s false 0 (-1) 0 fs = true) (t : Tree) (ht : TW t) :
    ∃ gv, rdK fl s (fixed ver 2 ++ pPart ver (fl ver) fs t) = some ((ver, gv), []) ∧ be16 ver ++ ap ver (fl ver) s gv = fixed ver 2 ++ pPart ver (fl ver) fs t ∧ ∀ n, n < (fixed ver 2 ++ pPart ver (fl ver) fs t).length → rdK fl s ((fixed ver 2 ++ pPart ver (fl ver) fs t).take n) = none := by
  have e : pPart ver (fl ver) fs t = ap ver (fl ver) s (gvS ver (fl ver) s (-1) fs 0 t) := (gv_ap ver (fl ver) s false 0 (-1) 0 fs hag).2 rfl 0 t
  obtain ⟨v', -, h2, h3⟩ := rd_ap ver (fl ver) s _ hok (gv_wf ver (fl ver) s false 0 (-1) 0 fs hag 0 t ht)
  rw [← e] at h2 h3
  have h4 : Exact (be16 ver ++ pPart ver (fl ver) fs t) (rdK fl s) (ver, v') := Exact.bind (Exact.int2 (by omega) h1) (Exact.bind_pure (f := fun v => (ver, v)) h3)
  have h5 : fixed ver 2 = be16 ver := by simp [fixed]
  rw [h5]
  refine ⟨v', ?_, by rw [h2], fun n hn => cut_none (Mono.rdK fl s) h4 hn⟩
  have := h4 []
  rwa [List.append_nil] at this
/-- What is read of any octets is written as octets that are read again, and written as the same. -/
theorem anyLawK {fl : Int → Bool} {s : Sch} {bs r : List UInt8} {ver : Int} {v : GV} (hok : ∀ ver, -32768 ≤ ver → okS ver (fl ver) s = true) (hb : bs.length ≤ 1000) (h : rdK fl s bs = some ((ver, v), r)) :
    (be16 ver ++ ap ver (fl ver) s v).length ≤ 1000 ∧ ∃ v', rdK fl s (be16 ver ++ ap ver (fl ver) s v) = some ((ver, v'), []) ∧ ap ver (fl ver) s v' = ap ver (fl ver) s v := by
  obtain ⟨n, r', h1, h2⟩ := bind_some h
  obtain ⟨g, r2, h3, h4⟩ := bind_some h2
  obtain ⟨h5, -⟩ := pure_some h4
  cases h5
  obtain ⟨h6, h7, h8⟩ := out_int (by omega) h1
  obtain ⟨h9, h10⟩ := rd_out ver (fl ver) s (hok ver h6) (by unfold M; omega) h3
  obtain ⟨v', -, h11, h12⟩ := rd_ap ver (fl ver) s v (hok ver h6) h9
  refine ⟨by rw [List.length_append, be16_length]; omega, v', ?_, h11⟩
  have h13 : Exact (be16 ver ++ ap ver (fl ver) s v) (rdK fl s) (ver, v') := Exact.bind (Exact.int2 h6 (by omega)) (Exact.bind_pure (f := fun v => (ver, v)) h12)
  have := h13 []
  rwa [List.append_nil] at this
/-- What Again of a kept thing answers. -/
def AgainPostK (fl : Int → Bool) (s : Sch) (bs : List UInt8) (w : World) (e : Ending) (w' : World) : Prop :=
  Below w.heap.size w w' ∧ (rdK fl s bs = none → e = .returned (.tuple #[.slice none 0 0, .bool false])) ∧ ∀ ver v r, rdK fl s bs = some ((ver, v), r) → ∃ x, e = .returned (.tuple #[x, .bool true]) ∧ Own w.heap.size w' x (be16 ver ++ ap ver (fl ver) s v)
theorem rdK_ver {fl : Int → Bool} {s : Sch} {bs r : List UInt8} {ver : Int} {v : GV} (h : rdK fl s bs = some ((ver, v), r)) : -32768 ≤ ver ∧ ver ≤ 32767 ∧ ∃ r', rdInt 2 32768 bs = some (ver, r') := by
  obtain ⟨n, r', h1, h2⟩ := bind_some h
  obtain ⟨g, r2, h3, h4⟩ := bind_some h2
  obtain ⟨h5, -⟩ := pure_some h4
  cases h5
  obtain ⟨h6, h7, -⟩ := out_int (by omega) h1
  exact ⟨h6, by omega, r', h1⟩
theorem repK {RT : RTags} {O : List Nat} {w : World} {ver low : Int} {flex : Bool} {s : Sch} {b o off0 : Nat} {gv : GV} (h : Rep RT O w ver flex s b o gv) (hc : w.cell? ⟨b, o + off0, none⟩ = some (.int .i16 ver)) (h0 : -32768 ≤ ver) (h1 : ver ≤ 32767) :
    Rep RT O w ver flex (.cons off0 low none (.leaf .i16) s) b o (.cons (.int ver) gv) := by
  unfold Rep
  exact ⟨fun _ => by unfold Rep RepLeaf; exact ⟨hc, h0, h1⟩, h⟩
theorem apK {ver low : Int} {flex : Bool} {s : Sch} {off0 : Nat} {gv : GV} (h0 : low ≤ ver) : ap ver flex (.cons off0 low none (.leaf .i16) s) (.cons (.int ver) gv) = be16 ver ++ ap ver flex s gv := by
  simp [ap, apLeaf, hasV, h0]

/-- 'var v T; v.Default(); return v'. -/
theorem calls_newK {P : Program} {f : Nat} {fn : Func} {nt FD U n r0 r1 r2 r3 y0 y1 y2 y3 y4 : Nat} {q0 q1 q2 q3 q4 : String} {g0 g1 g2 g3 g4 : Array Edge} {at_ : Array TypeId} {z C : List Value}
    (hf : P.funcs[f]? = some fn)
    (hbody : fn.body = some ((Code.region r0 #[⟨some 0, .alloc U, y0, q0, g0, none⟩] false).seq ((Code.region r1 #[⟨some 1, .alloc U, y1, q1, g1, none⟩] false).seq
      ((Code.region r2 #[⟨some 2, .call { callee := .value (.func FD), args := #[.tmp 1], argTypes := at_ }, y2, q2, g2, none⟩] false).seq
      ((Code.region r3 #[⟨some 3, .load U (.tmp 1), y3, q3, g3, none⟩, ⟨none, .store U (.tmp 0) (.tmp 3), y4, q4, g4, none⟩] false).seq .ret)))))
    (hnt : fn.ntmps = nt) (hnt4 : 4 ≤ nt) (hres : fn.results = #[.cell 0 U]) (he : Enters P FD) (hU : ManyCells P U n)
    (hz : ∀ w, (Instr.alloc U true (.tuple #[])).run P w = .ok (.pointer (some ⟨w.heap.size, 0, none⟩)) (w.alloc (.cells z.toArray U))) (hzn : z.length = n) (hC : C.length = n) (h1 : ∀ v ∈ C, v.oneCell' = true)
    (hDef : ∀ (w : World) (b : Nat), Blk w b z U → Calls P FD #[.pointer (some ⟨b, 0, none⟩)] w fun en w' => en = .returned (.tuple #[]) ∧ Blk w' b C U ∧ Keeps [b] w w') (w : World) :
    Calls P f #[] w fun e w' => e = .returned (.agg C.toArray) ∧ Below w.heap.size w w' := by
  refine calls_of_wp hf hbody ?_
  rw [hnt]
  generalize hA : ({ tmps := #[] ++ Array.replicate (nt - (#[] : Array Value).size) undef, defers := [] } : Act) = A
  have hAs : A.tmps.size = nt := by rw [← hA]; simp
  have hAd : A.defers = [] := by rw [← hA]
  clear hA
  refine wp_seq (wp_reg ?_)
  refine wl_value (v := .pointer (some ⟨w.heap.size, 0, none⟩)) (w' := w.alloc (.cells z.toArray U)) rfl (by simp [execOp, hz]) ?_
  refine wpList_nil ?_
  simp only [Exit.then]
  refine wp_seq (wp_reg ?_)
  refine wl_value (v := .pointer (some ⟨(w.alloc (.cells z.toArray U)).heap.size, 0, none⟩)) (w' := (w.alloc (.cells z.toArray U)).alloc (.cells z.toArray U)) rfl (by simp [execOp, hz]) ?_
  refine wpList_nil ?_
  simp only [Exit.then]
  have hs1 : (w.alloc (.cells z.toArray U)).heap.size = w.heap.size + 1 := by simp
  have hb1 := Blk.alloc_new (w.alloc (.cells z.toArray U)) z U
  have hb0 := (Blk.alloc_new w z U).alloc (.cells z.toArray U)
  have hbel := ((Below.refl w.heap.size w).alloc (Nat.le_refl _) (.cells z.toArray U)).alloc (by simp) (.cells z.toArray U)
  rw [hs1] at hb1
  rw [hs1]
  generalize (w.alloc (.cells z.toArray U)).alloc (.cells z.toArray U) = w2 at *
  have a1 : aget ((A.put (some 0) (.pointer (some ⟨w.heap.size, 0, none⟩))).put (some 1) (.pointer (some ⟨w.heap.size + 1, 0, none⟩))) 1 = .pointer (some ⟨w.heap.size + 1, 0, none⟩) := aget_put_same _ _ _ (by simp only [size_put]; omega)
  have a0 : aget ((A.put (some 0) (.pointer (some ⟨w.heap.size, 0, none⟩))).put (some 1) (.pointer (some ⟨w.heap.size + 1, 0, none⟩))) 0 = .pointer (some ⟨w.heap.size, 0, none⟩) := by
    rw [aget_put_other _ _ _ _ (by omega)]; exact aget_put_same _ _ _ (by omega)
  have hAz : ((A.put (some 0) (.pointer (some ⟨w.heap.size, 0, none⟩))).put (some 1) (.pointer (some ⟨w.heap.size + 1, 0, none⟩))).tmps.size = nt := by simp only [size_put, hAs]
  have ad : ((A.put (some 0) (.pointer (some ⟨w.heap.size, 0, none⟩))).put (some 1) (.pointer (some ⟨w.heap.size + 1, 0, none⟩))).defers = [] := by simp only [defers_put, hAd]
  generalize (A.put (some 0) (.pointer (some ⟨w.heap.size, 0, none⟩))).put (some 1) (.pointer (some ⟨w.heap.size + 1, 0, none⟩)) = A2 at *
  refine wp_seq (wp_reg ?_)
  refine wl_call (R := fun en w' => en = .returned (.tuple #[]) ∧ Blk w' (w.heap.size + 1) C U ∧ Keeps [w.heap.size + 1] w2 w') he ?_ ?_
  · simp only [List.map_toArray, List.map_cons, List.map_nil, aget_eval]
    rw [a1]
    exact hDef w2 _ hb1
  rintro en w3 ⟨rfl, hb3, hk3⟩
  refine ⟨_, rfl, wpList_nil ?_⟩
  simp only [Exit.then]
  have h03 := hb0.keeps hk3 (by simp)
  refine wp_seq (wp_reg ?_)
  refine wl_value (v := .agg C.toArray) (w' := w3) rfl ?_ ?_
  · have e1 : aget (A2.put (some 2) (.tuple #[])) 1 = .pointer (some ⟨w.heap.size + 1, 0, none⟩) := by rw [aget_put_other _ _ _ _ (by omega)]; exact a1
    have e2 := run_load_many (P := P) hU (w := w3) (ad := ⟨w.heap.size + 1, 0, none⟩) hC (fun j v hj => by rw [Addr.add_lit, Nat.zero_add, hb3.cell]; exact hj)
    simp [execOp, aget_eval, e1, e2]
  refine wl_store (w' := w3.setRow w.heap.size C.toArray) ?_ ?_
  · rw [aget_eval, aget_eval, aget_put_other _ _ _ 0 (by omega), aget_put_other _ _ _ 0 (by omega), a0, aget_put_same _ _ _ (by simp only [size_put]; omega)]
    exact run_store_many (P := P) hU (cur := z.toArray) h03 (by simpa using hzn) hC h1
  refine wpList_nil ?_
  simp only [Exit.then]
  have hr4 : Blk (w3.setRow w.heap.size C.toArray) w.heap.size C U := setRow_heap _ _ _ _ _ _ h03
  refine wp_ret (bodyPost_ret (v := .agg C.toArray) (results_cellN (ad := ⟨w.heap.size, 0, none⟩) hres ?_ hU hC (fun j v hj => by rw [Addr.add_lit, Nat.zero_add, hr4.cell]; exact hj)) (by simp only [defers_put, ad]) ⟨rfl, ?_⟩)
  · have : aget ((A2.put (some 2) (.tuple #[])).put (some 3) (.agg C.toArray)) 0 = .pointer (some ⟨w.heap.size, 0, none⟩) := by
      rw [aget_put_other _ _ _ _ (by omega), aget_put_other _ _ _ _ (by omega)]; exact a0
    exact this
  · exact below_setRow (hbel.trans (hk3.below (by have := hb1.lt; omega) (by simp))) (Nat.le_refl _) _

theorem keepK {n g : Nat} {w w' : World} {m0 m1 v0 v1 v2 v3 v4 : Value} (hb : Below n w w') (hg : g + 1 < n)
    (h : w.cell? ⟨g, 0, none⟩ = some m0 ∧ w.cell? ⟨g, 1, none⟩ = some m1 ∧ w.cell? ⟨g + 1, 0, none⟩ = some v0 ∧ w.cell? ⟨g + 1, 1, none⟩ = some v1 ∧ w.cell? ⟨g + 1, 2, none⟩ = some v2 ∧ w.cell? ⟨g + 1, 3, none⟩ = some v3 ∧ w.cell? ⟨g + 1, 4, none⟩ = some v4) :
    w'.cell? ⟨g, 0, none⟩ = some m0 ∧ w'.cell? ⟨g, 1, none⟩ = some m1 ∧ w'.cell? ⟨g + 1, 0, none⟩ = some v0 ∧ w'.cell? ⟨g + 1, 1, none⟩ = some v1 ∧ w'.cell? ⟨g + 1, 2, none⟩ = some v2 ∧ w'.cell? ⟨g + 1, 3, none⟩ = some v3 ∧ w'.cell? ⟨g + 1, 4, none⟩ = some v4 := by
  have k0 := fun i => hb.cell (p := ⟨g, i, none⟩) (by show g < n; omega)
  have k1 := fun i => hb.cell (p := ⟨g + 1, i, none⟩) hg
  exact ⟨(k0 0).trans h.1, (k0 1).trans h.2.1, (k1 0).trans h.2.2.1, (k1 1).trans h.2.2.2.1, (k1 2).trans h.2.2.2.2.1, (k1 3).trans h.2.2.2.2.2.1, (k1 4).trans h.2.2.2.2.2.2⟩
set_option maxRecDepth 100000 in
set_option maxHeartbeats 3200000 in
theorem spKept (fs : PFs) (htag : fs.noTag) (hopt : fs.noOpt) (ver fl : Int) (t : Tree) (flex : Bool) (hfl : flex = (decide (0 ≤ fl) && decide (fl ≤ ver))) (B base : Nat) (w : World) (fv : Value) (c : List Value) (hB : B ≤ base) (hb : base ≤ w.heap.size)
    (hf : RepF B w fs fv) (ht : RepT B w c t) (hl : (fixed ver 2 ++ pPart ver flex fs t).length ≤ lim) :
    Gives Tryz.prog 6 #[.agg #[fv, .int .i64 fl], .int .i64 ver, .agg c.toArray] w base (fixed ver 2 ++ pPart ver flex fs t) := by
  obtain ⟨sv, lv, uv, rfl, -, ⟨sa, sc, rfl, -⟩, ⟨la, lc, lf, rfl, -⟩, ⟨ua, uc, rfl, -⟩⟩ := ht.parts
  obtain ⟨fa, fcap, rfl, -⟩ := id hf
  have hM := (Blk.alloc_new w [.slice fa fs.len fcap, .int .i64 fl] 31).alloc (.cells #[.int .i64 t.n, .slice sa t.s.length sc, .bool t.null, .slice la t.l.length lc, .slice ua t.u.length uc] 26)
  have hT := Blk.alloc_new (w.alloc (.cells #[.slice fa fs.len fcap, .int .i64 fl] 31)) [.int .i64 t.n, .slice sa t.s.length sc, .bool t.null, .slice la t.l.length lc, .slice ua t.u.length uc] 26
  have hs1 : (w.alloc (.cells #[.slice fa fs.len fcap, .int .i64 fl] 31)).heap.size = w.heap.size + 1 := by simp
  have hb2 := ((Below.refl base w).alloc hb (.cells #[.slice fa fs.len fcap, .int .i64 fl] 31)).alloc (Nat.le_trans hb (by simp)) (.cells #[.int .i64 t.n, .slice sa t.s.length sc, .bool t.null, .slice la t.l.length lc, .slice ua t.u.length uc] 26)
  rw [hs1] at hT
  obtain ⟨W0, hW⟩ : ∃ W0, ((w.alloc (.cells #[.slice fa fs.len fcap, .int .i64 fl] 31)).alloc (.cells #[.int .i64 t.n, .slice sa t.s.length sc, .bool t.null, .slice la t.l.length lc, .slice ua t.u.length uc] 26)) = W0 := ⟨_, rfl⟩
  have hsW : W0.drew.heap.size = w.heap.size + 2 := by rw [← hW]; simp
  have c : W0.drew.cell? ⟨w.heap.size, 0, none⟩ = some (.slice fa fs.len fcap) ∧ W0.drew.cell? ⟨w.heap.size, 1, none⟩ = some (.int .i64 fl) ∧ W0.drew.cell? ⟨w.heap.size + 1, 0, none⟩ = some (.int .i64 t.n) ∧ W0.drew.cell? ⟨w.heap.size + 1, 1, none⟩ = some (.slice sa t.s.length sc) ∧ W0.drew.cell? ⟨w.heap.size + 1, 2, none⟩ = some (.bool t.null) ∧ W0.drew.cell? ⟨w.heap.size + 1, 3, none⟩ = some (.slice la t.l.length lc) ∧ W0.drew.cell? ⟨w.heap.size + 1, 4, none⟩ = some (.slice ua t.u.length uc) := by
    rw [← hW]
    exact ⟨hM.drew.cell_some (i := 0) rfl, hM.drew.cell_some (i := 1) rfl, hT.drew.cell_some (i := 0) rfl, hT.drew.cell_some (i := 1) rfl, hT.drew.cell_some (i := 2) rfl, hT.drew.cell_some (i := 3) rfl, hT.drew.cell_some (i := 4) rfl⟩
  have hbW : Below base w W0.drew := by rw [← hW]; exact hb2.drew
  have H := Lib.hid (And.intro (hf.below (hbW.mono hB)) (And.intro (ht.keep (hbW.mono hB)) (And.intro hbW c)))
  clear hM hT hb2 hbW hf ht c hs1
  go_enter Tryz.func6, Tryz.ntmps6
  go_wp2_with fail
  go_region_held3 (fun w' => w'.cell? ⟨w.heap.size, 0, none⟩ = some (.slice fa fs.len fcap) ∧ w'.cell? ⟨w.heap.size, 1, none⟩ = some (.int .i64 fl) ∧ w'.cell? ⟨w.heap.size + 1, 0, none⟩ = some (.int .i64 t.n) ∧ w'.cell? ⟨w.heap.size + 1, 1, none⟩ = some (.slice sa t.s.length sc) ∧ w'.cell? ⟨w.heap.size + 1, 2, none⟩ = some (.bool t.null) ∧ w'.cell? ⟨w.heap.size + 1, 3, none⟩ = some (.slice la t.l.length lc) ∧ w'.cell? ⟨w.heap.size + 1, 4, none⟩ = some (.slice ua t.u.length uc))
    (first | exact H.out.2.2.2 | exact hS3 | exact hS4 | exact hS5)
    (first
      | (go_at_call 16; refine (spFixed2 ver W0.drew.heap.size W0.drew (Nat.le_refl _)).mono ?_; rintro e w3 ⟨v3, rfl, hown3, hb3⟩; have z3 := hb3.size; have hS3 := keepK hb3 (by omega) H.out.2.2.2)
      | (go_at_call 11; refine (spWrite fs htag hopt ver fl t flex hfl B w3.heap.size w3 _ _ (by omega) (Nat.le_refl _) (H.out.1.below (hb3.mono (by omega))) (H.out.2.1.keep (hb3.mono (by omega))) (by simp only [List.length_append] at hl; omega)).mono ?_; rintro e w4 ⟨v4, rfl, hown4, hb4⟩; have z4 := hb4.size; have hS4 := keepK hb4 (by omega) hS3)
      | (refine step_append_from bt rfl (.tmp 8) (.tmp 12) rfl W0.drew.heap.size _ (hown3.stay hb4 (Nat.le_refl _)) (by omega) _ (Src.ofRL (B := w4.heap.size) Tryz.underlying22 (hown4.rl)) (by rw [← List.length_append]; exact hl) ?_; intro v5 w5 hown5 hb5; have hS5 := keepK hb5 (by omega) hS4))
  have FIN := Lib.hid (And.intro hown5 (H.out.2.2.1.trans (((hb3.mono (by omega)).trans (hb4.mono (by omega))).trans (hb5.mono (by omega)))))
  clear hown3 hb3 hown4 hb4 hown5 hb5 hS3 hS4
  go_wp2
  go_ret
  exact .mk (FIN.out.1.mono (by omega)) FIN.out.2
end Go.Proofs.YtmpilpgabelmiaaGreatDoor

/- Reading a value of a named kind of numbers: it is handed from slot to slot ahead of its store. -/
namespace Go.Proofs.YtmpilpgabelmiaaGreatDoor
open Go Go.RowKit
set_option linter.unusedVariables false

section
variable {RT : RTags} {P : Program} {N nt gE : Nat} {E : Value} {K : Slots} {lo t : Nat} {ver : Int} {flex : Bool}
/-- '..; v = T(w)'. -/
theorem rdL_copy {bp u v t1 r y1 y2 : Nat} {p1 p2 : String} {e1 e2 : Array Edge} {c : Code} {lf : Leaf} (hD : Dims N nt lo t) (hd : t ≤ t1 ∧ t1 < nt ∧ lo ≤ v ∧ v < N) (h : RdL P N nt gE E ver flex K lo t bp c u lf) :
    RdL P N nt gE E ver flex K lo t bp (c.seq (Code.region r #[⟨some t1, .move (.tmp u), y1, p1, e1, none⟩, ⟨some v, .assign (.tmp t1), y2, p2, e2, none⟩] false)) v lf := by
  intro O rb b T a w cs st Q hN hh hst hq
  have x1 := hD.dOne; have x2 := hD.dLo; have x3 := hD.dT; have x4 := hD.dN
  refine wp_seq (h O rb b T a w cs st _ hN hh hst fun a1 w1 x hx hone hst1 hf1 hk1 hlv => ?_)
  refine reg_copy (x0 := nt) (lo := lo) (hf1.size.trans hN) hx ⟨hD.dT, hd.1, hd.2.1, hd.2.2.1, hd.2.2.2⟩ fun a2 hf2 hx2 => ?_
  exact hq a2 w1 x hx2 hone hst1 (hf1.trans hf2) hk1 hlv
/-- '{ ..; v := w; s.F = v }'. -/
theorem rdF_leafC {s bp rs u v t0 t1 t2 T' k U off r r0 y1 y2 ty1 ty2 ty3 ty4 ty5 : Nat} {q1 q2 p1 p2 p3 p4 p5 : String} {g1 g2 e1 e2 e3 e4 e5 : Array Edge} {c : Code} {lf : Leaf}
    (hk : KOK N lo t ((s, .int .i64 0) :: (bp, .int .i64 0) :: K)) (hT : FieldAt P T' k off) (hU : OneCell P U) (hD : Dims N nt lo t) (hd : t ≤ t1 ∧ t1 + 3 < nt ∧ v ≠ t1 ∧ t ≤ t0 ∧ t0 < nt ∧ lo ≤ v ∧ v < N) (hlf : lf ≠ .uuid) (h : RdL P N nt gE E ver flex K lo t bp c u lf) :
    RdF RT P N nt gE E ver flex K lo t s bp rs (c.seq ((Code.region r0 #[⟨some t0, .move (.tmp u), y1, q1, g1, none⟩, ⟨some v, .assign (.tmp t0), y2, q2, g2, none⟩] false).seq
      (Code.region r #[⟨some t1, .move (.tmp s), ty1, p1, e1, none⟩, ⟨some (t1 + 1), .move (.tmp v), ty2, p2, e2, none⟩, ⟨some (t1 + 2), .nilCheck (.tmp t1), ty3, p3, e3, none⟩, ⟨some (t1 + 3), .fieldAddr T' (.tmp (t1 + 2)) k, ty4, p4, e4, none⟩,
      ⟨none, .store U (.tmp (t1 + 3)) (.tmp (t1 + 1)), ty5, p5, e5, none⟩] false))) off (.leaf lf) := by
  intro O rb b o T a w cs st Q hN hh hst hF hq hr
  obtain ⟨d1, d2, d3, d4, d5, d6, d7⟩ := hd
  have hl : o + off < cs.length := by cases lf <;> first | exact hF | exact absurd rfl hlf
  have ht : top (.leaf lf) = 1 := by cases lf <;> first | rfl | exact absurd rfl hlf
  refine wp_seq (h O rb b T a w cs st _ hN hh.tail hst fun a1 w1 x hx hone hst1 hf1 hk1 hlv => ?_)
  refine wp_seq (reg_copy (x0 := nt) (lo := lo) (hf1.size.trans hN) hx ⟨hD.dT, d4, d5, d6, d7⟩ fun a2 hf2 hx2 => ?_)
  have hf02 := hf1.trans hf2
  have hh2 := hh.frR (kokR hk) hD hf02
  refine reg_store hT hU (hf02.size.trans hN) hh2.head hx2 hone hst1.blk hl hD ⟨d1, d2, d3⟩ fun a3 hf3 => ?_
  refine hq a3 _ _ (hst1.store (o + off) x) (hf02.trans hf3) ((keeps_rb hk1).trans (keeps_b w1 _ _)) ?_ ?_
  · rw [ht]
    exact SameOut.set cs (o + off) x
  · intro v r hv
    have hb : Keeps O w1 (w1.setCell ⟨b, o + off, none⟩ x) := (Keeps.refl O w1).setCell hst.bO _
    exact ((hlv v r hv).keeps hb).rep ((hst1.blk.set (o + off) x).cell_some (by rw [List.getElem?_set_self hl]))
end
end Go.Proofs.YtmpilpgabelmiaaGreatDoor

/- Known tags, read: a tag laid into a part's own map; the reader of a tag's octets. -/
namespace Go.Proofs.YtmpilpgabelmiaaGreatDoor
open Go Go.RowKit Go.Maps
set_option linter.unusedVariables false

theorem set_same {α : Type} : ∀ {cs : List α} {q : Nat} {x : α}, cs[q]? = some x → cs.set q x = cs
  | [], q, x, h => by simp at h
  | c :: cs, 0, x, h => by
    simp only [List.getElem?_cons_zero, Option.some.injEq] at h
    rw [h]
    rfl
  | c :: cs, q + 1, x, h => by
    rw [List.set_cons_succ, set_same (cs := cs) (by simpa using h)]
set_option maxHeartbeats 1000000 in
theorem tagsSetAt (w : World) (p q T : Nat) (cs : List Value) (m : Option Nat) (n : Nat) (D : VD) (k : Nat) (v : Value) (hB : Blk w p cs T) (hq : cs[q]? = some (.map m)) (hm : MapAt w m n D) (hn : n < maxLen) (hk : k ≤ 4294967295) (hp : ∀ g, m = some g → g ≠ p) :
    Calls Tryz.prog 73 #[.pointer (some ⟨p, q, none⟩), .int .u32 (k : Nat), v] w fun e w' => e = .returned (.tuple #[]) ∧ ∃ g, Blk w' p (cs.set q (.map (some g))) T ∧ w'.ownsMap Tryz.prog 66 R0 g (n + 1) (D.put (kl32 k) (.held v)) ∧ ((m = some g ∧ Keeps [g] w w') ∨ (m = none ∧ g = w.heap.size ∧ Keeps [p] w w')) := by
  have hkey := keyOf_int_mk Tryz.underlying66 (kl32_wf hk)
  have m0 := hB.cell_some hq
  have f0 := hB.frozen q
  have qT : ∀ (w : World) (r : Option Nat), (binOp .eql 51 (.map r) (.map none)).run Tryz.prog w = .ok (.bool r.isNone) w := fun w r => run_eql_map_nil w _ _ _ r Tryz.underlying51
  cases m with
  | some g =>
    have hown : w.ownsMap Tryz.prog 66 R0 g n D := hm
    have hgp := hp g rfl
    have hss := set_same hq
    clear hm hp
    have HB := Lib.hid (And.intro hB hss)
    clear hB hq hss
    go_enter Tryz.func73, Tryz.ntmps73
    go_wp2_with (first
      | (at_mapUpdate; refine wpList_mapUpdate_own _ rfl _ _ _ 51 rfl 66 22 tagKeyed Tryz.underlying51 _ g n D rfl hown hn _ _ _ rfl rfl hkey _ [] rfl ?_; intro w1 hown1 hgrow1)
      | go_in)
    go_end0
    have hk1 : Keeps [g] w w1 := (Keeps.refl [g] w).grown hgrow1 (fun j hj => .inl (by cases hj; simp))
    exact ⟨rfl, g, by rw [HB.out.2]; exact HB.out.1.keeps hk1 (by simpa using fun e => hgp e.symm), hown1, rfl, hk1⟩
  | none =>
    cases hm
    have hlt := hB.lt
    have hsz : (w.setCell ⟨p, q, none⟩ (.map (some w.heap.size))).heap.size = w.heap.size := by simp [World.setCell]
    have hown : ((w.setCell ⟨p, q, none⟩ (.map (some w.heap.size))).alloc (.map #[] 0)).ownsMap Tryz.prog 66 R0 w.heap.size 0 (.map []) := by
      have h := World.ownsMap_made (H := Value) (w.setCell ⟨p, q, none⟩ (.map (some w.heap.size))) Tryz.prog 66 R0
      rwa [hsz] at h
    have h0 : 0 < maxLen := by unfold maxLen; omega
    have hmm := @run_makeMap Tryz.prog
    have HB := Lib.hid hB
    have HO := Lib.hid (And.intro h0 hown)
    clear hB hp h0 hown hsz hq
    go_enter Tryz.func73, Tryz.ntmps73
    go_wp2_with (first
      | (at_mapUpdate; refine wpList_mapUpdate_own _ rfl _ _ _ 51 rfl 66 22 tagKeyed Tryz.underlying51 _ w.heap.size 0 _ rfl HO.out.2 HO.out.1 _ _ _ rfl rfl hkey _ [] rfl ?_; intro w1 hown1 hgrow1)
      | go_in)
    go_end0
    have hB1 : Blk ((w.setCell ⟨p, q, none⟩ (.map (some w.heap.size))).alloc (.map #[] 0)) p (cs.set q (.map (some w.heap.size))) T := (HB.out.set q _).keeps ((Keeps.refl [] _).alloc _) (by simp)
    have hk0 : Keeps [p] w ((w.setCell ⟨p, q, none⟩ (.map (some w.heap.size))).alloc (.map #[] 0)) := ((Keeps.refl [p] w).setCell (by simp) _).alloc _
    have hk1 : Keeps [w.heap.size] ((w.setCell ⟨p, q, none⟩ (.map (some w.heap.size))).alloc (.map #[] 0)) w1 := (Keeps.refl _ _).grown hgrow1 (fun j hj => .inl (by cases hj; simp))
    exact ⟨rfl, w.heap.size, hB1.keeps hk1 (by simp; omega), hown1.mono (by omega), rfl, ((hk0.mono (O' := [w.heap.size, p]) (by simp)).trans (hk1.mono (by simp))).close (Nat.le_refl _)⟩

/-- The blocks that are open while tags are read: the map, once there is one. -/
def mO (m : Option Nat) (O : List Nat) : List Nat := match m with
  | none => O
  | some g => g :: O
theorem mem_mO {m : Option Nat} {O : List Nat} {k : Nat} : k ∈ mO m O ↔ m = some k ∨ k ∈ O := by
  cases m with
  | none => simp [mO]
  | some g => simp [mO, eq_comm]
theorem mO_sub {m : Option Nat} {O : List Nat} {k : Nat} (h : k ∈ O) : k ∈ mO m O := mem_mO.2 (.inr h)

section
variable {gE : Nat} {E : Value}
/-- What the tag that is laid into the map leaves. -/
structure SetOut (gE : Nat) (E : Value) (O : List Nat) (rb b T q : Nat) (m : Option Nat) (D : VD) (k : Nat) (v : Value) (n : Nat) (st : Option (List UInt8)) (cs : List Value) (w w' : World) (g : Nat) : Prop where
  rst : RSt gE E (mO (some g) O) w' rb b (cs.set q (.map (some g))) T st
  own : w'.ownsMap Tryz.prog 66 R0 g (n + 1) (D.put (kl32 k) (.held v))
  new : m = some g ∨ (m = none ∧ g = w.heap.size)
  keeps : Keeps [g, b] w w'
  rb : ∀ {x : Value} {s : List UInt8}, RB (mO m O) w x s → RB (mO (some g) O) w' x s
theorem setOut {O : List Nat} {rb b T q k n g : Nat} {m : Option Nat} {D : VD} {v : Value} {st : Option (List UInt8)} {cs : List Value} {w w' : World} (h : RSt gE E (mO m O) w rb b cs T st)
    (hg : ∀ g, m = some g → g ≠ rb ∧ g ≠ b ∧ g ≠ gE)
    (hb : Blk w' b (cs.set q (.map (some g))) T) (ho : w'.ownsMap Tryz.prog 66 R0 g (n + 1) (D.put (kl32 k) (.held v))) (hf : (m = some g ∧ Keeps [g] w w') ∨ (m = none ∧ g = w.heap.size ∧ Keeps [b] w w')) : SetOut gE E O rb b T q m D k v n st cs w w' g := by
  have hk : Keeps [g, b] w w' := by
    rcases hf with ⟨-, hk⟩ | ⟨-, -, hk⟩
    · exact hk.mono (by simp)
    · exact hk.mono (by simp)
  have hrbl := h.lt rb h.rbO
  have hbl := h.lt b h.bO
  have hgl : gE < w.heap.size := World.block_lt_of_cell? w _ h.glob
  have hgne : g ≠ rb ∧ g ≠ b ∧ g ≠ gE := by
    rcases hf with ⟨hm, -⟩ | ⟨-, hg', -⟩
    · exact hg g hm
    · exact ⟨by omega, by omega, by omega⟩
  have hrbO : rb ∈ O := by
    rcases mem_mO.1 h.rbO with hm | hm
    · exact absurd rfl (hg rb hm).1
    · exact hm
  have hbO : b ∈ O := by
    rcases mem_mO.1 h.bO with hm | hm
    · exact absurd rfl (hg b hm).2.1
    · exact hm
  have hsub : ∀ k, k ∈ [g, b] → k ∈ mO (some g) O := by
    intro k hk
    simp only [List.mem_cons, List.not_mem_nil, or_false] at hk
    rcases hk with rfl | rfl
    · exact mem_mO.2 (.inl rfl)
    · exact mO_sub hbO
  refine ⟨⟨?_, hb, mO_sub hrbO, mO_sub hbO, h.ne, ?_, ?_, ?_⟩, ho, ?_, hk, ?_⟩
  · have h4 : Rdr (mO (some g) O) w rb st := by
      rcases hf with ⟨hm, -⟩ | ⟨hm, hg', -⟩
      · rw [← hm]; exact h.rdr
      · subst hm; exact h.rdr.open (by omega)
    exact h4.other hk (by simp only [List.mem_cons, List.not_mem_nil, or_false, not_or]; exact ⟨fun e => hgne.1 e.symm, fun e => h.ne e.symm⟩) hsub
  · intro j hj
    rcases mem_mO.1 hj with hj | hj
    · cases hj
      exact World.ownsMap.lt ho
    · exact Nat.lt_of_lt_of_le (h.lt j (mO_sub hj)) hk.size
  · exact (World.cell?_of_block (hk.block gE hgl (by simp only [List.mem_cons, List.not_mem_nil, or_false, not_or]; exact ⟨fun e => hgne.2.2 e.symm, fun e => h.gO (e ▸ h.bO)⟩))).trans h.glob
  · intro hj
    rcases mem_mO.1 hj with hj | hj
    · cases hj
      exact hgne.2.2 rfl
    · exact h.gO (mO_sub hj)
  · rcases hf with ⟨hm, -⟩ | ⟨hm, hg', -⟩
    · exact .inl hm
    · exact .inr ⟨hm, hg'⟩
  · intro x s hs
    have hs4 : RB (mO (some g) O) w x s := by
      rcases hf with ⟨hm, -⟩ | ⟨hm, hg', -⟩
      · rw [← hm]; exact hs
      · subst hm; exact hs.openNew (by omega)
    exact hs4.keeps (hk.mono hsub)
end
end Go.Proofs.YtmpilpgabelmiaaGreatDoor

/- Known tags, read: the number of a tag; the reader of its octets; its field, with what follows; whether all went well. -/
namespace Go.Proofs.YtmpilpgabelmiaaGreatDoor
open Go Go.RowKit Go.Maps
set_option linter.unusedVariables false

theorem uvVal0 {O : List Nat} {rb : Nat} {w : World} {st : Option (List UInt8)} {e : Ending} {w' : World} (h : RdPost rdUv (fun _ _ v n => v = .int .u32 (n : Nat)) (fun v => v = .int .u32 0) O rb w st e w') :
    ∃ k : Nat, e = .returned (.int .u32 (k : Nat)) ∧ k ≤ 4294967295 ∧ Rdr O w' rb ((st.bind rdUv).map (·.2)) ∧ Keeps [rb] w w' ∧ (∀ n r, st.bind rdUv = some (n, r) → n = k) ∧ (st.bind rdUv = none → k = 0) := by
  obtain ⟨v, rfl, h1, h2, h3, h4⟩ := h
  cases hx : st.bind rdUv with
  | none => exact ⟨0, by rw [h3 hx]; rfl, by omega, by rw [hx] at h1; exact h1, h2, (fun n r h => by cases h), fun _ => rfl⟩
  | some q =>
    refine ⟨q.1, by rw [h4 q.1 q.2 hx], ?_, by rw [hx] at h1; exact h1, h2, (fun n r h => by cases h; rfl), (fun h => by cases h)⟩
    cases st with
    | none => cases hx
    | some bs => exact (out_uv (r := q.2) hx).1

/-- A tag's octets. -/
def rdSp : Pr (List UInt8) := rdUv.bind fun n => rdTake n
theorem rdSp_st (st : Option (List UInt8)) (k : Nat) (hk : ∀ n r, st.bind rdUv = some (n, r) → n = k) : st.bind rdSp = (((st.bind rdUv).map (·.2)).bind (rdSpan (k : Nat))) := by
  unfold rdSp
  rw [bind_st]
  cases hx : st.bind rdUv with
  | none => rfl
  | some q =>
    have := hk q.1 q.2 hx
    subst this
    simp only [Option.bind_some, Option.map_some]
    unfold rdSpan
    rw [if_neg (by omega), Int.toNat_natCast]
theorem tag1_sp (st : Option (List UInt8)) : st.bind rdTag1 = (st.bind rdUv).bind fun a => (rdSp a.2).bind fun c => some ((a.1, c.1), c.2) := by
  unfold rdTag1
  rw [bind_st]
  congr 1
  funext a
  unfold rdSp
  cases h2 : rdUv a.2 with
  | none => rw [bind_none h2, bind_none h2]; rfl
  | some b =>
    rw [bind_eq (v := b.1) (r := b.2) h2, bind_eq (v := b.1) (r := b.2) h2]
    cases h3 : rdTake b.1 b.2 with
    | none => rw [bind_none h3]; rfl
    | some c => rw [bind_eq (v := c.1) (r := c.2) h3]; rfl

section
variable {RT : RTags} {P : Program} {N nt gE : Nat} {E : Value} {K : Slots} {lo t : Nat} {ver : Int} {flex : Bool}
/-- What is asked of Uvarint, of Span. -/
def UvC (P : Program) (F : Nat) : Prop := RdC P F rdUv (fun _ _ v n => v = .int .u32 (n : Nat)) (fun v => v = .int .u32 0)
def SpanC (P : Program) (F : Nat) : Prop := ∀ (O : List Nat) (rb : Nat) (w : World) (st : Option (List UInt8)) (l : Int), rb ∈ O → (∀ k, k ∈ O → k < w.heap.size) → Rdr O w rb st →
  Calls P F #[.pointer (some ⟨rb, 0, none⟩), .int .i64 l] w (RdPost (rdSpan l) (fun O w v s => RB O w v s) (fun v => v = .slice none 0 0) O rb w st)
/-- 'i := b.Uvarint()'. -/
theorem reg_uv {bp x t1 F r ty1 ty2 : Nat} {p1 p2 : String} {e1 e2 : Array Edge} {at_ : Array TypeId} {O : List Nat} {w : World} {rb b T : Nat} {cs : List Value} {st : Option (List UInt8)} {a : Act} {Q : Exit → Act → World → Prop} (he : Enters P F) (hC : UvC P F)
    (hN : a.tmps.size = nt) (hbp : aget a bp = .pointer (some ⟨rb, 0, none⟩)) (hst : RSt gE E O w rb b cs T st) (hD : Dims N nt lo t) (hd : t ≤ t1 ∧ t1 < nt ∧ lo ≤ x ∧ x < N)
    (hq : ∀ a' w' (k : Nat), k ≤ 4294967295 → aget a' x = .int .u32 (k : Nat) → RSt gE E O w' rb b cs T ((st.bind rdUv).map (·.2)) → Fr N lo t nt a a' → Keeps [rb] w w' → (∀ n r, st.bind rdUv = some (n, r) → n = k) → (st.bind rdUv = none → k = 0) → (∀ s, s ≠ x → s < N → aget a' s = aget a s) → Q .normal a' w') :
    (Code.region r #[⟨some t1, .call { callee := .value (.func F), args := #[.tmp bp], argTypes := at_ }, ty1, p1, e1, none⟩, ⟨some x, .assign (.tmp t1), ty2, p2, e2, none⟩] false).wp P Q a w := by
  obtain ⟨d1, d2, d3, d4⟩ := hd
  have g1 := hD.dOne; have g2 := hD.dLo; have g3 := hD.dT; have g4 := hD.dN
  refine wp_reg ?_
  refine wl_call (R := RdPost rdUv (fun _ _ v n => v = .int .u32 (n : Nat)) (fun v => v = .int .u32 0) O rb w st) he ?_ ?_
  · simp only [List.map_toArray, List.map_cons, List.map_nil, aget_eval]
    rw [hbp]
    exact hC O rb w st hst.rbO hst.lt hst.rdr
  intro e w' hp
  obtain ⟨k, rfl, h1, h2, h3, h4, h5⟩ := uvVal0 hp
  refine ⟨_, rfl, ?_⟩
  refine wl_assign (aget_put_same _ _ _ (by rw [hN]; omega)) ?_
  exact wpList_nil (hq _ _ k h1 (aget_put_same _ _ _ (by simp only [size_put]; omega)) (hst.call h2 h3) (((Fr.refl N lo t nt a).put _ _ (by omega)).put _ _ (by omega)) h3 h4 h5 (fun s h1 h2 => (aget_put_other _ _ _ _ (by omega)).trans (aget_put_other _ _ _ _ (by omega))))
theorem RSt.inner {O : List Nat} {w w' : World} {rb rb' b T : Nat} {cs : List Value} {st : Option (List UInt8)} {sv : Value} {sp : List UInt8} (h : RSt gE E O w rb b cs T st) (hk : Keeps [] w w') (hb : Blk w' rb' [sv, .bool false] 110) (hrb : w.heap.size ≤ rb') (hs : RB O w sv sp) (hl : sp.length ≤ lim) :
    RSt gE E (rb' :: O) w' rb' b cs T (some sp) ∧ Rdr (rb' :: O) w' rb st := by
  have hgl : gE < w.heap.size := World.block_lt_of_cell? w _ h.glob
  have hbl := h.lt b h.bO
  have hrl := h.lt rb h.rbO
  refine ⟨⟨⟨sv, hb, (hs.openNew hrb).keeps (hk.mono (by simp)), hl⟩, h.blk.keeps hk (by simp), by simp, List.mem_cons_of_mem _ h.bO, by omega, ?_, ?_, ?_⟩, ?_⟩
  · intro k hk'
    rcases List.mem_cons.1 hk' with rfl | hk'
    · exact hb.lt
    · exact Nat.lt_of_lt_of_le (h.lt k hk') hk.size
  · exact (World.cell?_of_block (hk.block gE hgl (by simp))).trans h.glob
  · intro hk'
    rcases List.mem_cons.1 hk' with e | hk'
    · omega
    · exact h.gO hk'
  · exact (h.rdr.open hrb).other hk (by simp) (by simp)
theorem wl_conv_u32 {I U : Nat} {w : World} {ops : Array Oper} {rest : List Oper} {a : Act} {Q : Exit → Act → World → Prop} {d s : Nat} {ty : TypeId} {pos : String} {af : Array Edge} {k : Nat} (hI : P.underlying I = some (.int .u32)) (hU : P.underlying U = some (.int .i64)) (hs : aget a s = .int .u32 (k : Nat)) (hk : k ≤ 4294967295)
    (h : wpList P ops Q rest (a.put (some d) (.int .i64 (k : Nat))) w) : wpList P ops Q (⟨some d, .convert I U (.tmp s), ty, pos, af, none⟩ :: rest) a w := by
  refine wl_value (v := .int .i64 (k : Nat)) (w' := w) rfl ?_ h
  have e2 : a.eval (.tmp s) = .int .u32 (k : Nat) := hs
  have e3 : IntKind.i64.wrap (k : Int) = k := by rw [IntKind.wrap_i64]; omega
  simp [execOp, e2, convert, run_underlying hI, run_underlying hU, Conv.intToInt, e3]
/-- 'b := Reader{Src: b.Span(int(b.Uvarint()))}'. -/
theorem reg_inner {bp ib t1 FU FS U I J r y1 y2 y3 y4 y5 y6 : Nat} {q1 q2 q3 q4 q5 q6 : String} {e1 e2 e3 e4 e5 e6 : Array Edge} {at1 at2 : Array TypeId} {O : List Nat} {w : World} {rb b T : Nat} {cs : List Value} {st : Option (List UInt8)} {a : Act} {Q : Exit → Act → World → Prop}
    (heU : Enters P FU) (hC : UvC P FU) (heS : Enters P FS) (hS : SpanC P FS) (hI : P.underlying I = some (.int .u32)) (hJ : P.underlying J = some (.int .i64)) (hU : ManyCells P U 2) (hUr : U = 110) (hB : ∀ ad n m, P.built U [(0, .slice ad n m)] = some #[.slice ad n m, .bool false])
    (hN : a.tmps.size = nt) (hbp : aget a bp = .pointer (some ⟨rb, 0, none⟩)) (hst : RSt gE E O w rb b cs T st) (hD : Dims N nt lo t) (hd : t ≤ t1 ∧ t1 + 3 < nt ∧ lo ≤ ib ∧ ib < N ∧ bp < lo)
    (hq : ∀ a' w' rb' sp, w.heap.size ≤ rb' → aget a' ib = .pointer (some ⟨rb', 0, none⟩) → RSt gE E (rb' :: O) w' rb' b cs T (some sp) → Rdr (rb' :: O) w' rb ((st.bind rdSp).map (·.2)) → Fr N lo t nt a a' → Keeps [rb] w w' → (∀ s r, st.bind rdSp = some (s, r) → s = sp) → (st.bind rdSp = none → sp = []) → Q .normal a' w') :
    (Code.region r #[⟨some t1, .call { callee := .value (.func FU), args := #[.tmp bp], argTypes := at1 }, y1, q1, e1, none⟩, ⟨some (t1 + 1), .convert I J (.tmp t1), y2, q2, e2, none⟩,
      ⟨some (t1 + 2), .call { callee := .value (.func FS), args := #[.tmp bp, .tmp (t1 + 1)], argTypes := at2 }, y3, q3, e3, none⟩, ⟨some (t1 + 3), .build U #[(0, .tmp (t1 + 2))], y4, q4, e4, none⟩, ⟨some ib, .alloc U, y5, q5, e5, none⟩,
      ⟨none, .store U (.tmp ib) (.tmp (t1 + 3)), y6, q6, e6, none⟩] false).wp P Q a w := by
  obtain ⟨d1, d2, d3, d4, d5⟩ := hd
  have g1 := hD.dOne; have g2 := hD.dLo; have g3 := hD.dT; have g4 := hD.dN
  refine wp_reg ?_
  refine wl_call (R := RdPost rdUv (fun _ _ v n => v = .int .u32 (n : Nat)) (fun v => v = .int .u32 0) O rb w st) heU ?_ ?_
  · simp only [List.map_toArray, List.map_cons, List.map_nil, aget_eval]
    rw [hbp]
    exact hC O rb w st hst.rbO hst.lt hst.rdr
  intro e w1 hp
  obtain ⟨k, rfl, hk1, hr1, hk, hv, -⟩ := uvVal0 hp
  refine ⟨_, rfl, ?_⟩
  have hst1 := hst.call hr1 hk
  refine wl_conv_u32 hI hJ (aget_put_same _ _ _ (by rw [hN]; omega)) hk1 ?_
  refine wl_call (R := RdPost (rdSpan (k : Nat)) (fun O w v s => RB O w v s) (fun v => v = .slice none 0 0) O rb w1 ((st.bind rdUv).map (·.2))) heS ?_ ?_
  · simp only [List.map_toArray, List.map_cons, List.map_nil, aget_eval]
    rw [aget_put_other _ _ _ bp (by omega), aget_put_other _ _ _ bp (by omega), hbp, aget_put_same _ _ _ (by simp only [size_put]; omega)]
    exact hS O rb w1 _ _ hst1.rbO hst1.lt hst1.rdr
  rintro en w2 ⟨v, rfl, hr2, hk2, hbad, hgood⟩
  rw [← rdSp_st st k hv] at hr2 hbad hgood
  refine ⟨_, rfl, ?_⟩
  have hst2 := hst1.call hr2 hk2
  obtain ⟨sp, hsp, hlim, hs1, hs2⟩ : ∃ sp, RB O w2 v sp ∧ sp.length ≤ lim ∧ (∀ s r, st.bind rdSp = some (s, r) → s = sp) ∧ (st.bind rdSp = none → sp = []) := by
    cases hx : st.bind rdSp with
    | none => exact ⟨[], by rw [hbad hx]; exact RB.nil _ _, by simp, (fun s r h => by cases h), fun _ => rfl⟩
    | some q =>
      refine ⟨q.1, hgood q.1 q.2 hx, ?_, (fun s r h => by cases h; rfl), (fun h => by cases h)⟩
      have hy : ((st.bind rdUv).map (·.2)).bind (rdSpan (k : Nat)) = some (q.1, q.2) := by rw [← rdSp_st st k hv]; exact hx
      cases hz : (st.bind rdUv).map (·.2) with
      | none => rw [hz] at hy; cases hy
      | some bs =>
        rw [hz] at hy
        have h1 := hst1.rdr
        rw [hz] at h1
        exact (span_out h1 hy).1
  obtain ⟨sad, scap, hsl, -⟩ : ∃ a c, v = .slice a sp.length c ∧ True := by obtain ⟨a, c, h, -⟩ := hsp; exact ⟨a, c, h, trivial⟩
  subst hsl
  refine wl_value (v := .agg #[.slice sad sp.length scap, .bool false]) (w' := w2) rfl ?_ ?_
  · have e0 : ∀ A : Act, aget A (t1 + 2) = .slice sad sp.length scap → (execOp A.eval ⟨some (t1 + 3), .build U #[(0, .tmp (t1 + 2))], y4, q4, e4, none⟩).run P w2 = .ok (.value (.agg #[.slice sad sp.length scap, .bool false])) w2 := by
      intro A hA
      have e1 : A.eval (.tmp (t1 + 2)) = .slice sad sp.length scap := hA
      have e2 := run_build (P := P) w2 U #[(0, .slice sad sp.length scap)] _ (hB sad sp.length scap)
      simp [execOp, e1, e2]
    exact e0 _ (aget_put_same _ _ _ (by simp only [size_put]; omega))
  obtain ⟨z, hz, hza⟩ := run_alloc_many (P := P) hU w2
  refine wl_value (v := .pointer (some ⟨w2.heap.size, 0, none⟩)) (w' := w2.alloc (.cells z U)) rfl (by simp [execOp, hza]) ?_
  have hg : (w2.alloc (.cells z U)).heap[w2.heap.size]? = some (.cells z U (0, 0)) := heap_alloc_new w2 _
  refine wl_store (w' := (w2.alloc (.cells z U)).setRow w2.heap.size #[.slice sad sp.length scap, .bool false]) ?_ ?_
  · rw [aget_eval, aget_eval, aget_put_same _ _ _ (by simp only [size_put]; omega), aget_put_other _ _ _ (t1 + 3) (by omega), aget_put_same _ _ _ (by simp only [size_put]; omega)]
    exact run_store_many (P := P) hU hg hz (l := [.slice sad sp.length scap, .bool false]) rfl (by simp [Value.oneCell'])
  have hblk : Blk ((w2.alloc (.cells z U)).setRow w2.heap.size #[.slice sad sp.length scap, .bool false]) w2.heap.size [.slice sad sp.length scap, .bool false] U := setRow_heap _ _ _ _ _ _ hg
  have hk0 : Keeps [] w2 ((w2.alloc (.cells z U)).setRow w2.heap.size #[.slice sad sp.length scap, .bool false]) := by
    exact Keeps.of_below (below_setRow (Below.alloc (Below.refl w2.heap.size w2) (Nat.le_refl _) (.cells z U)) (Nat.le_refl _) _) (Nat.le_refl _)
  generalize ((w2.alloc (.cells z U)).setRow w2.heap.size #[.slice sad sp.length scap, .bool false]) = w3 at *
  rw [hUr] at hblk
  obtain ⟨k1, k2⟩ := hst2.inner hk0 hblk (Nat.le_refl _) hsp hlim
  have z1 := hk.size
  have z2 := hk2.size
  refine wpList_nil (hq _ w3 w2.heap.size sp (by omega) (aget_put_same _ _ _ (by simp only [size_put]; omega)) k1 k2 ?_ ((hk.trans hk2).trans (hk0.mono (by simp))) hs1 hs2)
  exact (((((Fr.refl N lo t nt a).put _ _ (by omega)).put _ _ (by omega)).put _ _ (by omega)).put _ _ (by omega)).put _ _ (by omega)
/-- 'if err := b.Complete(); err != nil { return err }', of a tag's own reader. -/
theorem reg_err {ib x rs t1 t2 t3 F J U r r2 r3 y1 y2 y3 y4 y5 y6 : Nat} {q1 q2 q3 q4 q5 q6 : String} {e1 e2 e3 e4 e5 e6 : Array Edge} {at_ : Array TypeId} {O : List Nat} {w : World} {rb : Nat} {st : Option (List UInt8)} {a : Act} {Q : Exit → Act → World → Prop} {tE : TypeId} {vE : Value} (he : Enters P F) (hC : CompleteC P F gE E) (hE' : E = .iface tE vE)
    (hJ : ∀ w t v, (binOp .neq J (.iface t v) .nilIface).run P w = .ok (.bool true) w) (hJ0 : ∀ w, (binOp .neq J .nilIface .nilIface).run P w = .ok (.bool false) w) (hJg : ∀ x, eqGuard .neq J (.tmp t2) (.const .nilIface) x .nilIface = pure ())
    (hN : a.tmps.size = nt) (hbp : aget a ib = .pointer (some ⟨rb, 0, none⟩)) (hr : Rdr O w rb st) (hE : w.cell? ⟨gE, 0, none⟩ = some E) (hD : Dims N nt lo t) (hd : t ≤ t1 ∧ t1 < nt ∧ lo ≤ x ∧ x < N ∧ t ≤ t2 ∧ t2 + 1 < nt ∧ t3 < nt ∧ rs < nt ∧ rs ≠ x)
    (hq : ∀ a', st.isSome = true → Fr N lo t nt a a' → Q .normal a' w) (hret : ∀ a', st = none → a'.tmps.size = nt → a'.defers = a.defers → aget a' rs = E → Q .ret a' w) :
    ((Code.region r #[⟨some t1, .call { callee := .value (.func F), args := #[.tmp ib], argTypes := at_ }, y1, q1, e1, none⟩, ⟨some x, .assign (.tmp t1), y2, q2, e2, none⟩] false).seq
      ((Code.region r2 #[⟨some t2, .move (.tmp x), y3, q3, e3, none⟩, ⟨some (t2 + 1), .binOp .neq J (.tmp t2) (.const .nilIface) U, y4, q4, e4, none⟩] false).seq
      (.cond (.tmp (t2 + 1)) ((Code.region r3 #[⟨some t3, .move (.tmp x), y5, q5, e5, none⟩, ⟨some rs, .assign (.tmp t3), y6, q6, e6, none⟩] false).seq .ret) .skip))).wp P Q a w := by
  obtain ⟨d1, d2, d3, d4, d5, d6, d7, d8, d9⟩ := hd
  have g1 := hD.dOne; have g2 := hD.dLo; have g3 := hD.dT; have g4 := hD.dN
  refine wp_seq (wp_reg ?_)
  refine wl_call (R := fun e w' => e = .returned (if st.isSome then .nilIface else E) ∧ w = w') he ?_ ?_
  · simp only [List.map_toArray, List.map_cons, List.map_nil, aget_eval]
    rw [hbp]
    exact hC O rb w st hr hE
  rintro e w' ⟨rfl, rfl⟩
  refine ⟨_, rfl, ?_⟩
  refine wl_assign (aget_put_same _ _ _ (by rw [hN]; omega)) ?_
  refine wpList_nil ?_
  have f1 : Fr N lo t nt a ((a.put (some t1) (if st.isSome then .nilIface else E)).put (some x) (if st.isSome then .nilIface else E)) := ((Fr.refl N lo t nt a).put _ _ (by omega)).put _ _ (by omega)
  have x1 : aget ((a.put (some t1) (if st.isSome then .nilIface else E)).put (some x) (if st.isSome then .nilIface else E)) x = (if st.isSome then .nilIface else E) := aget_put_same _ _ _ (by simp only [size_put]; omega)
  generalize ((a.put (some t1) (if st.isSome then .nilIface else E)).put (some x) (if st.isSome then .nilIface else E)) = a1 at *
  have s1 := f1.size.trans hN
  simp only [Exit.then]
  refine wp_seq (wp_reg ?_)
  refine wl_move x1 ?_
  cases st with
  | some bs =>
    simp only [Option.isSome_some, if_true] at x1 ⊢
    refine wl_bin (r := .bool false) (aget_put_same _ _ _ (by omega)) (hJg _) (hJ0 w) ?_
    refine wpList_nil ?_
    simp only [Exit.then]
    refine wp_cond_false (aget_put_same _ _ _ (by simp only [size_put]; omega)) (wp_skip (hq _ rfl (f1.trans (((Fr.refl N lo t nt a1).put _ _ (by omega)).put _ _ (by omega)))))
  | none =>
    simp only [Option.isSome_none, Bool.false_eq_true, if_false] at x1 ⊢
    subst hE'
    refine wl_bin (r := .bool true) (aget_put_same _ _ _ (by omega)) (hJg _) (hJ w tE vE) ?_
    refine wpList_nil ?_
    simp only [Exit.then]
    refine wp_cond_true (aget_put_same _ _ _ (by simp only [size_put]; omega)) ?_
    refine wp_seq (wp_reg ?_)
    refine wl_move (v := .iface tE vE) ((aget_put_other _ _ _ _ (by omega)).trans ((aget_put_other _ _ _ _ (by omega)).trans x1)) ?_
    refine wl_assign (aget_put_same _ _ _ (by simp only [size_put]; omega)) ?_
    refine wpList_nil ?_
    simp only [Exit.then]
    refine wp_ret (hret _ rfl (by simp only [size_put]; exact s1) (by simp only [defers_put]; exact f1.defers) (aget_put_same _ _ _ (by simp only [size_put]; omega)))
end
end Go.Proofs.YtmpilpgabelmiaaGreatDoor

/- Known tags, read: one tag, known or not. -/
namespace Go.Proofs.YtmpilpgabelmiaaGreatDoor
open Go Go.RowKit Go.Maps
set_option linter.unusedVariables false

/-- What is asked of a known tag's cells ahead of its reading. -/
def KPre : Sch → List Value → Nat → Option (List UInt8) → Prop
  | .leaf k, cs, p, _ => p + top (.leaf k) ≤ cs.length
  | .list _ _ _, cs, p, st => cs[p]? = some (.slice none 0 0) ∨ (st = none ∧ ∃ ad n c, cs[p]? = some (.slice ad n c))
  | _, _, _, _ => False
theorem kpre_fresh {k : Leaf} {cs : List Value} {p : Nat} (h : p + top (.leaf k) ≤ cs.length) : Fresh cs p (.leaf k) := by
  cases k <;> simp only [top, Fresh] at h ⊢ <;> omega
theorem rd_nil {ver : Int} {flex : Bool} {f : Sch} {d : Int} (h : knd f d = true) : rd ver flex f [] = none := by
  cases f with
  | leaf k => cases k <;> simp [knd] at h <;> cases flex <;> rfl
  | list nul z e => cases flex <;> rfl
  | _ => simp [knd] at h

section
variable {RT : RTags} {P : Program} {N nt gE : Nat} {E : Value} {K : Slots} {lo t : Nat} {ver : Int} {flex : Bool}
/-- The code of a field, with what follows it. -/
def RdFK (RT : RTags) (P : Program) (N nt gE : Nat) (E : Value) (ver : Int) (flex : Bool) (K : Slots) (lo t s bp rs : Nat) (ct : Code → Code) (off : Nat) (f : Sch) : Prop :=
  ∀ (O : List Nat) (rb b o T : Nat) (a : Act) (w : World) (cs : List Value) (st : Option (List UInt8)) (Q : Exit → Act → World → Prop) (R : Code),
    a.tmps.size = nt → Holds ((s, .pointer (some ⟨b, o, none⟩)) :: (bp, .pointer (some ⟨rb, 0, none⟩)) :: K) a → RSt gE E O w rb b cs T st → Fresh cs (o + off) f →
    (∀ a' w' cs', RSt gE E O w' rb b cs' T ((st.bind (rd ver flex f)).map (·.2)) → Fr N lo t nt a a' → Keeps [rb, b] w w' → SameOut cs cs' (o + off) (o + (off + top f)) → (∀ v r, st.bind (rd ver flex f) = some (v, r) → Rep RT O w' ver flex f b (o + off) v) → R.wp P Q a' w') →
    (∀ a' w', st.bind (rd ver flex f) = none → a'.tmps.size = nt → a'.defers = a.defers → aget a' rs = E → Keeps [rb, b] w w' → Q .ret a' w') → (ct R).wp P Q a w
theorem rdFK_leaf {s bp rs v t1 T' k U off r ty1 ty2 ty3 ty4 ty5 : Nat} {p1 p2 p3 p4 p5 : String} {e1 e2 e3 e4 e5 : Array Edge} {c : Code} {lf : Leaf}
    (hk : KOK N lo t ((s, .int .i64 0) :: (bp, .int .i64 0) :: K)) (hT : FieldAt P T' k off) (hU : OneCell P U) (hD : Dims N nt lo t) (hd : t ≤ t1 ∧ t1 + 3 < nt ∧ v ≠ t1) (hlf : lf ≠ .uuid) (h : RdL P N nt gE E ver flex K lo t bp c v lf) :
    RdFK RT P N nt gE E ver flex K lo t s bp rs (fun R => c.seq ((Code.region r #[⟨some t1, .move (.tmp s), ty1, p1, e1, none⟩, ⟨some (t1 + 1), .move (.tmp v), ty2, p2, e2, none⟩, ⟨some (t1 + 2), .nilCheck (.tmp t1), ty3, p3, e3, none⟩, ⟨some (t1 + 3), .fieldAddr T' (.tmp (t1 + 2)) k, ty4, p4, e4, none⟩,
      ⟨none, .store U (.tmp (t1 + 3)) (.tmp (t1 + 1)), ty5, p5, e5, none⟩] false).seq R)) off (.leaf lf) := by
  intro O rb b o T a w cs st Q R hN hh hst hF hq hr
  have hl : o + off < cs.length := by cases lf <;> first | exact hF | exact absurd rfl hlf
  have ht : top (.leaf lf) = 1 := by cases lf <;> first | rfl | exact absurd rfl hlf
  refine wp_seq (h O rb b T a w cs st _ hN hh.tail hst fun a1 w1 x hx hone hst1 hf1 hk1 hlv => ?_)
  have hh1 := hh.frR (kokR hk) hD hf1
  refine wp_seq (reg_store hT hU (hf1.size.trans hN) hh1.head hx hone hst1.blk hl hD hd fun a2 hf2 => ?_)
  refine hq a2 _ _ (hst1.store (o + off) x) (hf1.trans hf2) ((keeps_rb hk1).trans (keeps_b w1 _ _)) ?_ ?_
  · rw [ht]
    exact SameOut.set cs (o + off) x
  · intro v r hv
    have hb : Keeps O w1 (w1.setCell ⟨b, o + off, none⟩ x) := (Keeps.refl O w1).setCell hst.bO _
    exact ((hlv v r hv).keeps hb).rep ((hst1.blk.set (o + off) x).cell_some (by rw [List.getElem?_set_self hl]))
theorem rdFK_var {s bp rs u r ty1 off : Nat} {p1 : String} {e1 : Array Edge} {ct : Code → Code} {f : Sch} {z : Value} (hk : KOK N lo t ((s, .int .i64 0) :: (bp, .int .i64 0) :: K)) (hD : Dims N nt lo t) (hd : lo ≤ u ∧ u < N) (h : RdFK RT P N nt gE E ver flex K lo t s bp rs ct off f) :
    RdFK RT P N nt gE E ver flex K lo t s bp rs (fun R => (Code.region r #[⟨some u, .assign (.const z), ty1, p1, e1, none⟩] false).seq (ct R)) off f := by
  intro O rb b o T a w cs st Q R hN hh hst hFr hq hr
  refine wp_seq (wp_reg (wl_assign_c (wpList_nil ?_)))
  have hf : Fr N lo t nt a (a.put (some u) z) := (Fr.refl N lo t nt a).put _ _ (by omega)
  exact h O rb b o T _ w cs st Q R (hf.size.trans hN) (hh.frR (kokR hk) hD hf) hst hFr (fun a2 w2 cs2 g1 g2 => hq a2 w2 cs2 g1 (hf.trans g2)) (fun a2 w2 g1 g2 g3 => hr a2 w2 g1 g2 (g3.trans hf.defers))

/-- The code that reads a known tag's octets, by its own reader. -/
def KB (RT : RTags) (P : Program) (N nt gE : Nat) (E : Value) (ver : Int) (flex : Bool) (K : Slots) (lo t s bp rs : Nat) (c : Code) (off : Nat) (f : Sch) : Prop :=
  ∀ (O : List Nat) (rb b o T : Nat) (a : Act) (w : World) (cs : List Value) (st : Option (List UInt8)) (Q : Exit → Act → World → Prop),
    a.tmps.size = nt → Holds ((s, .pointer (some ⟨b, o, none⟩)) :: (bp, .pointer (some ⟨rb, 0, none⟩)) :: K) a → RSt gE E O w rb b cs T st → KPre f cs (o + off) st →
    (∀ a' w' cs' sp r x r', st.bind rdSp = some (sp, r) → rd ver flex f sp = some (x, r') → RSt gE E O w' rb b cs' T (some r) → Fr N lo t nt a a' → Keeps [rb, b] w w' → SameOut cs cs' (o + off) (o + (off + top f)) → Rep RT O w' ver flex f b (o + off) x → Q .normal a' w') →
    (∀ a' w', (∀ sp r, st.bind rdSp = some (sp, r) → rd ver flex f sp = none) → a'.tmps.size = nt → a'.defers = a.defers → aget a' rs = E → Keeps [rb, b] w w' → Q .ret a' w') → c.wp P Q a w
theorem rst_outer {O : List Nat} {w w' w2 : World} {rb rb' b T : Nat} {cs cs' : List Value} {st : Option (List UInt8)} {st' : Option (List UInt8)} (h : RSt gE E O w rb b cs T st) (hn : w.heap.size ≤ rb') (hr : Rdr (rb' :: O) w' rb st') {si : Option (List UInt8)} (hi : RSt gE E (rb' :: O) w2 rb' b cs' T si) (hk : Keeps [rb', b] w' w2) (hk0 : Keeps [rb] w w') :
    RSt gE E O w2 rb b cs' T st' ∧ Keeps [rb, b] w w2 := by
  have hrl := h.lt rb h.rbO
  have h1 : Keeps [rb', rb, b] w w2 := (hk0.mono (by simp)).trans (hk.mono (by simp))
  refine ⟨⟨?_, hi.blk, h.rbO, h.bO, h.ne, fun k hk' => hi.lt k (List.mem_cons_of_mem _ hk'), hi.glob, h.gO⟩, h1.close hn⟩
  have h2 : Rdr (rb' :: O) w2 rb st' := hr.other hk (by simp only [List.mem_cons, List.not_mem_nil, or_false, not_or]; exact ⟨by omega, fun e => h.ne e.symm⟩) (by
    intro k hk'
    simp only [List.mem_cons, List.not_mem_nil, or_false] at hk'
    rcases hk' with rfl | rfl
    · exact List.mem_cons_self ..
    · exact List.mem_cons_of_mem _ h.bO)
  exact h2.mono fun k hk' => List.mem_cons_of_mem _ hk'
theorem kb_leaf {s bp rs ib x t1 t2 t3 t4 lo' t' FU FS FC U I J JE UE r0 r1 r2 r3 off y1 y2 y3 y4 y5 y6 y7 y8 y9 y10 y11 y12 : Nat} {q1 q2 q3 q4 q5 q6 q7 q8 q9 q10 q11 q12 : String} {e1 e2 e3 e4 e5 e6 e7 e8 e9 e10 e11 e12 : Array Edge} {at1 at2 at3 : Array TypeId} {ct : Code → Code} {lf : Leaf} {d : Int} {tE : TypeId} {vE : Value}
    (hRT : RTMono RT) (hk : KOK N lo t ((s, .int .i64 0) :: (bp, .int .i64 0) :: K)) (heU : Enters P FU) (hCU : UvC P FU) (heS : Enters P FS) (hS : SpanC P FS) (hI : P.underlying I = some (.int .u32)) (hJ : P.underlying J = some (.int .i64)) (hU : ManyCells P U 2) (hUr : U = 110) (hB : ∀ ad n m, P.built U [(0, .slice ad n m)] = some #[.slice ad n m, .bool false])
    (heC : Enters P FC) (hC : CompleteC P FC gE E) (hE' : E = .iface tE vE) (hJE : ∀ w t v, (binOp .neq JE (.iface t v) .nilIface).run P w = .ok (.bool true) w) (hJ0 : ∀ w, (binOp .neq JE .nilIface .nilIface).run P w = .ok (.bool false) w) (hJg : ∀ x, eqGuard .neq JE (.tmp t3) (.const .nilIface) x .nilIface = pure ())
    (hD : Dims N nt lo t) (hD' : Dims N nt lo' t') (hd : t ≤ t1 ∧ t1 + 3 < nt ∧ lo ≤ ib ∧ ib < N ∧ bp < lo ∧ s < lo ∧ ib < lo' ∧ lo ≤ lo' ∧ t ≤ t') (hd2 : t ≤ t2 ∧ t2 < nt ∧ lo ≤ x ∧ x < N ∧ t ≤ t3 ∧ t3 + 1 < nt ∧ t4 < nt ∧ rs < nt ∧ rs ≠ x) (hkn : knd (.leaf lf) d = true)
    (h : RdFK RT P N nt gE E ver flex K lo' t' s ib rs ct off (.leaf lf)) :
    KB RT P N nt gE E ver flex K lo t s bp rs ((Code.region r0 #[⟨some t1, .call { callee := .value (.func FU), args := #[.tmp bp], argTypes := at1 }, y1, q1, e1, none⟩, ⟨some (t1 + 1), .convert I J (.tmp t1), y2, q2, e2, none⟩,
      ⟨some (t1 + 2), .call { callee := .value (.func FS), args := #[.tmp bp, .tmp (t1 + 1)], argTypes := at2 }, y3, q3, e3, none⟩, ⟨some (t1 + 3), .build U #[(0, .tmp (t1 + 2))], y4, q4, e4, none⟩, ⟨some ib, .alloc U, y5, q5, e5, none⟩,
      ⟨none, .store U (.tmp ib) (.tmp (t1 + 3)), y6, q6, e6, none⟩] false).seq (ct
      ((Code.region r1 #[⟨some t2, .call { callee := .value (.func FC), args := #[.tmp ib], argTypes := at3 }, y7, q7, e7, none⟩, ⟨some x, .assign (.tmp t2), y8, q8, e8, none⟩] false).seq
      ((Code.region r2 #[⟨some t3, .move (.tmp x), y9, q9, e9, none⟩, ⟨some (t3 + 1), .binOp .neq JE (.tmp t3) (.const .nilIface) UE, y10, q10, e10, none⟩] false).seq
      (.cond (.tmp (t3 + 1)) ((Code.region r3 #[⟨some t4, .move (.tmp x), y11, q11, e11, none⟩, ⟨some rs, .assign (.tmp t4), y12, q12, e12, none⟩] false).seq .ret) .skip))))) off (.leaf lf) := by
  intro O rb b o T a w cs st Q hN hh hst hF hq hr
  obtain ⟨d1, d2, d3, d4, d5, d6, d7, d9, d10⟩ := hd
  obtain ⟨c1, c2, c3, c4, c5, c6, c7, c8, c9⟩ := hd2
  refine wp_seq (reg_inner heU hCU heS hS hI hJ hU hUr hB hN hh.tail.head hst hD ⟨d1, d2, d3, d4, d5⟩ fun a1 w1 rb' sp hnew hib hri hro hf1 hk1 hs1 hs0 => ?_)
  have hh1 := hh.frR (kokR hk) hD hf1
  have hN1 := hf1.size.trans hN
  refine h (rb' :: O) rb' b o T a1 w1 cs (some sp) _ _ hN1 ?_ hri (kpre_fresh hF) ?_ ?_
  · intro p hp
    simp only [List.mem_cons] at hp
    rcases hp with rfl | rfl | hp
    · exact hh1.head
    · exact hib
    · exact hh1 p (by simp [hp])
  · intro a2 w2 cs2 hst2 hf2 hk2 hso hrep
    have hN2 := hf2.size.trans hN1
    have hib2 : aget a2 ib = .pointer (some ⟨rb', 0, none⟩) := (hf2.same ib (by have := hD'.dN; have := hD'.dT; have := hD'.dLo; omega) (.inl d7)).trans hib
    obtain ⟨k1, k2⟩ := rst_outer hst hnew hro hst2 hk2 hk1
    refine reg_err heC hC hE' hJE hJ0 hJg hN2 hib2 hst2.rdr hst2.glob hD ⟨c1, c2, c3, c4, c5, c6, c7, c8, c9⟩ (fun a3 hsome hf3 => ?_) (fun a3 hnone g1 g2 g3 => hr a3 w2 ?_ g1 (g2.trans (hf2.defers.trans hf1.defers)) g3 k2)
    · cases hx : (some sp).bind (rd ver flex (.leaf lf)) with
      | none => rw [hx] at hsome; cases hsome
      | some q =>
        have hsp : ∃ r, st.bind rdSp = some (sp, r) := by
          cases hy : st.bind rdSp with
          | none =>
            rw [hs0 hy] at hx
            have : rd ver flex (.leaf lf) [] = some q := hx
            rw [rd_nil hkn] at this
            cases this
          | some z => exact ⟨z.2, by rw [← hs1 z.1 z.2 hy]⟩
        obtain ⟨r, hr'⟩ := hsp
        rw [hr'] at k1
        exact hq a3 w2 cs2 sp r q.1 q.2 hr' hx k1 (hf1.trans ((hf2.mono d9 d10).trans hf3)) k2 hso ((hrep q.1 q.2 hx).mono hRT fun k hk' => List.mem_cons_of_mem _ hk')
    · intro sp' r' hy
      have := hs1 sp' r' hy
      subst this
      cases hx : rd ver flex (.leaf lf) sp' with
      | none => rfl
      | some q =>
        have hx' : (some sp').bind (rd ver flex (.leaf lf)) = some q := hx
        rw [hx'] at hnone
        cases hnone
  · intro a2 w2 hn g1 g2 g3 g4
    refine hr a2 w2 (fun sp' r' hy => ?_) g1 (g2.trans hf1.defers) g3 ?_
    · have := hs1 sp' r' hy
      subst this
      exact hn
    · have hrl := hst.lt rb hst.rbO
      have h1 : Keeps [rb', rb, b] w w2 := (hk1.mono (by simp)).trans (g4.mono (by simp))
      exact h1.close hnew
end
end Go.Proofs.YtmpilpgabelmiaaGreatDoor

/- Known tags, read: an unknown one; which of them it is. -/
namespace Go.Proofs.YtmpilpgabelmiaaGreatDoor
open Go Go.RowKit Go.Maps
set_option linter.unusedVariables false

/-- Values of operations that no other one of the region waits for or turns: they may be taken first. -/
def yHeads (P : Program) (ops : Array Oper) : List Oper → Act → (Act → Prop) → Prop
  | [], a, K => K a
  | o :: l, a, K => ∃ v, Yields P ops o v a ∧ yHeads P ops l (a.put o.dst v) K
theorem yHeads_mono {P : Program} {ops : Array Oper} {K K' : Act → Prop} (h : ∀ a, K a → K' a) : ∀ {l : List Oper} {a : Act}, yHeads P ops l a K → yHeads P ops l a K'
  | [], _, hh => h _ hh
  | _ :: _, _, ⟨v, hy, hh⟩ => ⟨v, hy, yHeads_mono h hh⟩
/-- The first n operations may be taken first, one by one; the others go in order. -/
def headsB (ops : Array Oper) (n : Nat) : Bool := Region.noSelect ops && Region.lexHead .any ops (ops.size - n) n 0 (Array.replicate ops.size false)
theorem wpAny_heads {P : Program} {ops : Array Oper} {Q : Exit → Act → World → Prop} (hs : Region.noSelect ops = true) (hQ : ∀ c a w, ¬ Q (.panic c) a w) {g : Nat} {w : World} :
    ∀ (hd : List Oper) (k : Nat) (listed : Array Bool) (a : Act), (∀ j o, hd[j]? = some o → ops[k + j]? = some o) → Region.lexHead .any ops g hd.length k listed = true →
      yHeads P ops hd a (fun a' => ∀ listed', Region.seqB .any ops g (k + hd.length) listed' = true → wpAny P .any ops Q g listed' a' w) → wpAny P .any ops Q (hd.length + g) listed a w
  | [], k, listed, a, _, hB, h => by
    simp only [List.length_nil, Nat.zero_add, Nat.add_zero, Region.lexHead] at hB h ⊢
    exact h listed hB
  | o :: l, k, listed, a, hl, hB, h => by
    obtain ⟨v, hy, h⟩ := h
    simp only [List.length_cons, Region.lexHead, Bool.and_eq_true] at hB
    obtain ⟨⟨hr, hf⟩, hB'⟩ := hB
    have h0 : ops[k]? = some o := by simpa using hl 0 o rfl
    have e : (o :: l).length + g = (l.length + g) + 1 := by simp only [List.length_cons]; omega
    rw [e]
    refine wpAny_take h0 hs hf hr (fun c a w h => absurd h (hQ c _ w)) hy ?_
    refine wpAny_heads hs hQ l (k + 1) _ _ (fun j o' hj => ?_) hB' ?_
    · have := hl (j + 1) o' (by simpa using hj)
      rw [← this]
      congr 1
      omega
    · have e2 : k + (o :: l).length = k + 1 + l.length := by simp only [List.length_cons]; omega
      rw [e2] at h
      exact h
theorem wp_region_heads {P : Program} {id : Nat} {Q : Exit → Act → World → Prop} {a : Act} {w : World} {l : List Oper} (n : Nat) (hm : P.follows .mixedOrders = true) (hB : headsB l.toArray n = true) (hn : n ≤ l.length)
    (h : yHeads P l.toArray (l.take n) a (fun a' => wpList P l.toArray (fun e a w => e = .normal ∧ Q .normal a w) (l.drop n) a' w.drew)) : (Code.region id l.toArray true).wp P Q a w := by
  simp only [headsB, Bool.and_eq_true] at hB
  refine Code.wp_mono (Q := fun e a w => e = .normal ∧ Q .normal a w) (fun e a w hh => ?_) (wp_region_any hm ?_)
  · obtain ⟨rfl, hh⟩ := hh
    exact hh
  · have hlen : (l.take n).length = n := by simp; omega
    have hsz : l.toArray.size = (l.take n).length + (l.toArray.size - n) := by rw [hlen]; simp; omega
    rw [hsz]
    have hB2 := hB.2
    rw [hsz] at hB2
    have key := wpAny_heads (P := P) (Q := fun e a w => e = .normal ∧ Q .normal a w) (g := l.toArray.size - n) (w := w.drew) hB.1 (fun c a w h => nomatch h.1) (l.take n) 0 (Array.replicate l.toArray.size false) a
      (fun j o hj => ?_) (by rw [hlen]; exact hB.2) ?_
    · rw [← hsz]
      rw [← hsz] at key
      exact key
    · have hj' : j < n := by
        have := (List.getElem?_eq_some_iff.1 hj).1
        omega
      rw [List.getElem?_take_of_lt hj'] at hj
      simpa using hj
    · refine yHeads_mono (fun a' ha' listed' hl' => ?_) h
      have hd : (l.drop n).length = l.toArray.size - n := by simp
      rw [hlen, Nat.zero_add, ← hd] at hl'
      rw [← hd]
      exact wpAny_of_seq (l.drop n) n listed' a' w.drew (fun j => by simp) hl' ha'
section
variable {gE : Nat} {E : Value} {K : Slots} {N nt lo t : Nat}
theorem RSt.drew {O : List Nat} {w : World} {rb b T : Nat} {cs : List Value} {st : Option (List UInt8)} (h : RSt gE E O w rb b cs T st) : RSt gE E O w.drew rb b cs T st :=
  h.call (h.rdr.other ((Keeps.refl [] w).drew) (by simp) (by simp)) ((Keeps.refl [rb] w).drew)
/-- What is asked of Set. -/
def SetC (F : Nat) : Prop := ∀ (w : World) (p q T : Nat) (cs : List Value) (m : Option Nat) (n : Nat) (D : VD) (k : Nat) (v : Value), Blk w p cs T → cs[q]? = some (.map m) → MapAt w m n D → n < maxLen → k ≤ 4294967295 → (∀ g, m = some g → g ≠ p) →
  Calls Tryz.prog F #[.pointer (some ⟨p, q, none⟩), .int .u32 (k : Nat), v] w fun e w' => e = .returned (.tuple #[]) ∧ ∃ g, Blk w' p (cs.set q (.map (some g))) T ∧ w'.ownsMap Tryz.prog 66 R0 g (n + 1) (D.put (kl32 k) (.held v)) ∧ ((m = some g ∧ Keeps [g] w w') ∨ (m = none ∧ g = w.heap.size ∧ Keeps [p] w w'))
theorem setC : SetC 73 := tagsSetAt
set_option maxRecDepth 100000 in
/-- 's.UnknownTags.Set(key, b.Span(int(b.Uvarint())))'. -/
theorem reg_set {bp s kx t1 FU FS FSet I J T' kf e r y1 y2 y3 y4 y5 y6 y7 y8 : Nat} {q1 q2 q3 q4 q5 q6 q7 q8 : String} {e1 e2 e3 e4 e5 e6 e7 e8 : Array Edge} {at1 at2 at3 : Array TypeId} {O : List Nat} {w : World} {rb b o T : Nat} {cs : List Value} {st : Option (List UInt8)} {a : Act} {Q : Exit → Act → World → Prop} {m : Option Nat} {nn k : Nat} {D : VD}
    (hm : Tryz.prog.follows .mixedOrders = true) (heU : Enters Tryz.prog FU) (hCU : UvC Tryz.prog FU) (heS : Enters Tryz.prog FS) (hS : SpanC Tryz.prog FS) (heT : Enters Tryz.prog FSet) (hT : SetC FSet) (hI : Tryz.prog.underlying I = some (.int .u32)) (hJ : Tryz.prog.underlying J = some (.int .i64)) (hFA : FieldAt Tryz.prog T' kf e)
    (hN : a.tmps.size = nt) (hs : aget a s = .pointer (some ⟨b, o, none⟩)) (hbp : aget a bp = .pointer (some ⟨rb, 0, none⟩)) (hkx : aget a kx = .int .u32 (k : Nat)) (hk : k ≤ 4294967295) (hst : RSt gE E (mO m O) w rb b cs T st) (hc : cs[o + e]? = some (.map m)) (hM : MapAt w m nn D) (hnn : nn < maxLen) (hg : ∀ g, m = some g → g ≠ rb ∧ g ≠ b ∧ g ≠ gE) (hD : Dims N nt lo t) (hd : t ≤ t1 ∧ t1 + 7 < nt ∧ s < t1 ∧ bp < t1 ∧ kx < t1)
    (hB : headsB #[⟨some t1, .move (.tmp s), y1, q1, e1, none⟩, ⟨some (t1 + 1), .nilCheck (.tmp t1), y2, q2, e2, none⟩, ⟨some (t1 + 2), .fieldAddr T' (.tmp (t1 + 1)) kf, y3, q3, e3, none⟩, ⟨some (t1 + 3), .move (.tmp kx), y4, q4, e4, none⟩,
      ⟨some (t1 + 4), .call { callee := .value (.func FU), args := #[.tmp bp], argTypes := at1 }, y5, q5, e5, none⟩, ⟨some (t1 + 5), .convert I J (.tmp (t1 + 4)), y6, q6, e6, none⟩,
      ⟨some (t1 + 6), .call { callee := .value (.func FS), args := #[.tmp bp, .tmp (t1 + 5)], argTypes := at2 }, y7, q7, e7, none⟩, ⟨some (t1 + 7), .call { callee := .value (.func FSet), args := #[.tmp (t1 + 2), .tmp (t1 + 3), .tmp (t1 + 6)], argTypes := at3 }, y8, q8, e8, none⟩] 4 = true)
    (hq : ∀ a' w1 w' g v3, Keeps [rb] w w1 → RSt gE E (mO m O) w1 rb b cs T ((st.bind rdSp).map (·.2)) → (∀ sp r, st.bind rdSp = some (sp, r) → RB (mO m O) w1 v3 sp) → SetOut gE E O rb b T (o + e) m D k v3 nn ((st.bind rdSp).map (·.2)) cs w1 w' g → Fr N lo t nt a a' → Q .normal a' w') :
    (Code.region r #[⟨some t1, .move (.tmp s), y1, q1, e1, none⟩, ⟨some (t1 + 1), .nilCheck (.tmp t1), y2, q2, e2, none⟩, ⟨some (t1 + 2), .fieldAddr T' (.tmp (t1 + 1)) kf, y3, q3, e3, none⟩, ⟨some (t1 + 3), .move (.tmp kx), y4, q4, e4, none⟩,
      ⟨some (t1 + 4), .call { callee := .value (.func FU), args := #[.tmp bp], argTypes := at1 }, y5, q5, e5, none⟩, ⟨some (t1 + 5), .convert I J (.tmp (t1 + 4)), y6, q6, e6, none⟩,
      ⟨some (t1 + 6), .call { callee := .value (.func FS), args := #[.tmp bp, .tmp (t1 + 5)], argTypes := at2 }, y7, q7, e7, none⟩, ⟨some (t1 + 7), .call { callee := .value (.func FSet), args := #[.tmp (t1 + 2), .tmp (t1 + 3), .tmp (t1 + 6)], argTypes := at3 }, y8, q8, e8, none⟩] true).wp Tryz.prog Q a w := by
  obtain ⟨d1, d2, d3, d4, d5⟩ := hd
  have g1 := hD.dOne; have g2 := hD.dLo; have g3 := hD.dT; have g4 := hD.dN
  refine wp_region_heads 4 hm hB (by simp) ?_
  have y0 : ∀ (A : Act) (o : Oper) (v : Value) (ops : Array Oper), o.guard = none → (∀ w, (execOp A.eval o).run Tryz.prog w = .ok (.value v) w) → Yields Tryz.prog ops o v A := fun A o v ops hg hr => .inl ⟨by simp [Region.wanted, hg], hr⟩
  refine ⟨.pointer (some ⟨b, o, none⟩), y0 _ _ _ _ rfl (fun w => by simp [execOp, aget_eval, hs]), ?_⟩
  have e0 : ∀ (A : Act) (d s' : Nat) (ad : Addr) (y : Nat) (q : String) (ee : Array Edge), aget A s' = .pointer (some ad) → ∀ w, (execOp A.eval ⟨some d, .nilCheck (.tmp s'), y, q, ee, none⟩).run Tryz.prog w = .ok (.value (.pointer (some ad))) w := by
    intro A d s' ad y q ee hA w
    simp [execOp, aget_eval, hA]
  refine ⟨.pointer (some ⟨b, o, none⟩), y0 _ _ _ _ rfl (e0 _ _ _ _ _ _ _ (aget_put_same _ _ _ (by omega))), ?_⟩
  have e00 : ∀ (A : Act) (d s' : Nat) (ad : Addr) (y : Nat) (q : String) (ee : Array Edge), aget A s' = .pointer (some ad) → ∀ w, (execOp A.eval ⟨some d, .fieldAddr T' (.tmp s') kf, y, q, ee, none⟩).run Tryz.prog w = .ok (.value (.pointer (some (ad.add e)))) w := by
    intro A d s' ad y q ee hA w
    simp [execOp, aget_eval, hA, hFA ad w]
  refine ⟨.pointer (some ⟨b, o + e, none⟩), y0 _ _ _ _ rfl (fun w => (e00 _ _ _ _ _ _ _ (aget_put_same _ _ _ (by simp only [size_put]; omega)) w).trans (by rw [Addr.add_lit])), ?_⟩
  have e000 : ∀ (A : Act), aget A kx = .int .u32 (k : Nat) → ∀ w, (execOp A.eval ⟨some (t1 + 3), .move (.tmp kx), y4, q4, e4, none⟩).run Tryz.prog w = .ok (.value (.int .u32 (k : Nat))) w := by
    intro A hA w
    simp [execOp, aget_eval, hA]
  refine ⟨.int .u32 (k : Nat), y0 _ _ _ _ rfl (e000 _ (by rw [aget_put_other _ _ _ kx (by omega), aget_put_other _ _ _ kx (by omega), aget_put_other _ _ _ kx (by omega)]; exact hkx)), ?_⟩
  have hf4 : Fr N lo t nt a ((((a.put (some t1) (.pointer (some ⟨b, o, none⟩))).put (some (t1 + 1)) (.pointer (some ⟨b, o, none⟩))).put (some (t1 + 2)) (.pointer (some ⟨b, o + e, none⟩))).put (some (t1 + 3)) (.int .u32 (k : Nat))) := ((((Fr.refl N lo t nt a).put _ _ (by omega)).put _ _ (by omega)).put _ _ (by omega)).put _ _ (by omega)
  have hbp4 : aget ((((a.put (some t1) (.pointer (some ⟨b, o, none⟩))).put (some (t1 + 1)) (.pointer (some ⟨b, o, none⟩))).put (some (t1 + 2)) (.pointer (some ⟨b, o + e, none⟩))).put (some (t1 + 3)) (.int .u32 (k : Nat))) bp = .pointer (some ⟨rb, 0, none⟩) := by
    rw [aget_put_other _ _ _ bp (by omega), aget_put_other _ _ _ bp (by omega), aget_put_other _ _ _ bp (by omega), aget_put_other _ _ _ bp (by omega)]; exact hbp
  have h24 : aget ((((a.put (some t1) (.pointer (some ⟨b, o, none⟩))).put (some (t1 + 1)) (.pointer (some ⟨b, o, none⟩))).put (some (t1 + 2)) (.pointer (some ⟨b, o + e, none⟩))).put (some (t1 + 3)) (.int .u32 (k : Nat))) (t1 + 2) = .pointer (some ⟨b, o + e, none⟩) := by
    rw [aget_put_other _ _ _ _ (by omega)]; exact aget_put_same _ _ _ (by simp only [size_put]; omega)
  have h34 : aget ((((a.put (some t1) (.pointer (some ⟨b, o, none⟩))).put (some (t1 + 1)) (.pointer (some ⟨b, o, none⟩))).put (some (t1 + 2)) (.pointer (some ⟨b, o + e, none⟩))).put (some (t1 + 3)) (.int .u32 (k : Nat))) (t1 + 3) = .int .u32 (k : Nat) := aget_put_same _ _ _ (by simp only [size_put]; omega)
  show wpList _ _ _ _ (((( a.put (some t1) (.pointer (some ⟨b, o, none⟩))).put (some (t1 + 1)) (.pointer (some ⟨b, o, none⟩))).put (some (t1 + 2)) (.pointer (some ⟨b, o + e, none⟩))).put (some (t1 + 3)) (.int .u32 (k : Nat))) w.drew
  generalize ((((a.put (some t1) (.pointer (some ⟨b, o, none⟩))).put (some (t1 + 1)) (.pointer (some ⟨b, o, none⟩))).put (some (t1 + 2)) (.pointer (some ⟨b, o + e, none⟩))).put (some (t1 + 3)) (.int .u32 (k : Nat))) = A at *
  have hst0 := hst.drew
  have hN4 := hf4.size.trans hN
  have hM0 : MapAt w.drew m nn D := by
    cases m with
    | none => exact hM
    | some g => exact hM
  have k0 : Keeps [rb] w w.drew := (Keeps.refl [rb] w).drew
  generalize w.drew = w0 at *
  refine wl_call (R := RdPost rdUv (fun _ _ v n => v = .int .u32 (n : Nat)) (fun v => v = .int .u32 0) (mO m O) rb w0 st) heU ?_ ?_
  · simp only [List.map_toArray, List.map_cons, List.map_nil, aget_eval]
    rw [hbp4]
    exact hCU _ rb w0 st hst0.rbO hst0.lt hst0.rdr
  intro en w1 hp
  obtain ⟨k1, rfl, hk1, hr1, hkp, hv, -⟩ := uvVal0 hp
  refine ⟨_, rfl, ?_⟩
  have hst1 := hst0.call hr1 hkp
  refine wl_conv_u32 hI hJ (aget_put_same _ _ _ (by omega)) hk1 ?_
  refine wl_call (R := RdPost (rdSpan (k1 : Nat)) (fun O w v s => RB O w v s) (fun v => v = .slice none 0 0) (mO m O) rb w1 ((st.bind rdUv).map (·.2))) heS ?_ ?_
  · simp only [List.map_toArray, List.map_cons, List.map_nil, aget_eval]
    rw [aget_put_other _ _ _ bp (by omega), aget_put_other _ _ _ bp (by omega), hbp4, aget_put_same _ _ _ (by simp only [size_put]; omega)]
    exact hS _ rb w1 _ _ hst1.rbO hst1.lt hst1.rdr
  rintro en w2 ⟨v3, rfl, hr2, hk2, hbad, hgood⟩
  rw [← rdSp_st st k1 hv] at hr2 hbad hgood
  refine ⟨_, rfl, ?_⟩
  have hst2 := hst1.call hr2 hk2
  have hk02 : Keeps [rb] w0 w2 := hkp.trans hk2
  have hM2 : MapAt w2 m nn D := hM0.keeps hk02 (fun g hgm => by simpa using (hg g hgm).1)
  refine wl_call (R := fun en w' => en = .returned (.tuple #[]) ∧ ∃ g, SetOut gE E O rb b T (o + e) m D k v3 nn ((st.bind rdSp).map (·.2)) cs w2 w' g) heT ?_ ?_
  · simp only [List.map_toArray, List.map_cons, List.map_nil, aget_eval]
    rw [aget_put_other _ _ _ (t1 + 2) (by omega), aget_put_other _ _ _ (t1 + 2) (by omega), aget_put_other _ _ _ (t1 + 2) (by omega), h24,
      aget_put_other _ _ _ (t1 + 3) (by omega), aget_put_other _ _ _ (t1 + 3) (by omega), aget_put_other _ _ _ (t1 + 3) (by omega), h34, aget_put_same _ _ _ (by simp only [size_put]; omega)]
    refine (hT w2 b (o + e) T cs m nn D k v3 hst2.blk hc hM2 hnn hk (fun g hgm => (hg g hgm).2.1)).mono ?_
    rintro en w3 ⟨rfl, g, b1, b2, b3⟩
    exact ⟨rfl, g, setOut hst2 hg b1 b2 b3⟩
  rintro en w3 ⟨rfl, g, hso⟩
  refine ⟨_, rfl, ?_⟩
  refine wpList_nil (And.intro rfl (hq _ w2 w3 g v3 (k0.trans hk02) hst2 (fun sp r hx => hgood sp r hx) hso ?_))
  exact hf4.trans (((((Fr.refl N lo t nt A).put _ _ (by omega)).put _ _ (by omega)).put _ _ (by omega)).put _ _ (by omega))

/-- The code that reads one tag, of which the number is known: it is one of those from i on, or none. -/
def SwC (gE : Nat) (E : Value) (N nt : Nat) (ver : Int) (K : Slots) (lo t s bp rs kx tk : Nat) (e i : Nat) (L : List (Nat × Int × Sch)) (c : Code) : Prop :=
  ∀ (O : List Nat) (rb b o T : Nat) (a : Act) (w : World) (cs : List Value) (st : Option (List UInt8)) (Q : Exit → Act → World → Prop) (k : Nat) (m : Option Nat) (nn : Nat) (D : VD),
    a.tmps.size = nt → Holds ((s, .pointer (some ⟨b, o, none⟩)) :: (bp, .pointer (some ⟨rb, 0, none⟩)) :: K) a → aget a tk = .int .u32 (k : Nat) → aget a kx = .int .u32 (k : Nat) → i ≤ k → k ≤ 4294967295 → RSt gE E (mO m O) w rb b cs T st →
    (∀ j c, L[j]? = some c → k = i + j → KPre c.2.2 cs (o + c.1) st) → cs[o + e]? = some (.map m) → MapAt w m nn D → nn < maxLen → (∀ g, m = some g → g ≠ rb ∧ g ≠ b ∧ g ≠ gE) →
    (∀ j c, L[j]? = some c → k = i + j → ∀ a' w' cs' sp r x r', st.bind rdSp = some (sp, r) → rd ver true c.2.2 sp = some (x, r') → RSt gE E (mO m O) w' rb b cs' T (some r) → Fr N lo t nt a a' → Keeps [rb, b] w w' → SameOut cs cs' (o + c.1) (o + (c.1 + top c.2.2)) → Rep TagMem (mO m O) w' ver true c.2.2 b (o + c.1) x → Q .normal a' w') →
    (∀ j c, L[j]? = some c → k = i + j → ∀ a' w', (∀ sp r, st.bind rdSp = some (sp, r) → rd ver true c.2.2 sp = none) → a'.tmps.size = nt → a'.defers = a.defers → aget a' rs = E → Keeps [rb, b] w w' → Q .ret a' w') →
    (i + L.length ≤ k → ∀ a' w1 w' g v3, Keeps [rb] w w1 → RSt gE E (mO m O) w1 rb b cs T ((st.bind rdSp).map (·.2)) → (∀ sp r, st.bind rdSp = some (sp, r) → RB (mO m O) w1 v3 sp) → SetOut gE E O rb b T (o + e) m D k v3 nn ((st.bind rdSp).map (·.2)) cs w1 w' g → Fr N lo t nt a a' → Q .normal a' w') →
    c.wp Tryz.prog Q a w
theorem swC_end {s bp rs kx tk e i t1 FU FS FSet I J T' kf r y1 y2 y3 y4 y5 y6 y7 y8 : Nat} {q1 q2 q3 q4 q5 q6 q7 q8 : String} {e1 e2 e3 e4 e5 e6 e7 e8 : Array Edge} {at1 at2 at3 : Array TypeId} {ver : Int}
    (hm : Tryz.prog.follows .mixedOrders = true) (heU : Enters Tryz.prog FU) (hCU : UvC Tryz.prog FU) (heS : Enters Tryz.prog FS) (hS : SpanC Tryz.prog FS) (heT : Enters Tryz.prog FSet) (hT : SetC FSet) (hI : Tryz.prog.underlying I = some (.int .u32)) (hJ : Tryz.prog.underlying J = some (.int .i64)) (hFA : FieldAt Tryz.prog T' kf e)
    (hD : Dims N nt lo t) (hd : t ≤ t1 ∧ t1 + 7 < nt ∧ s < t1 ∧ bp < t1 ∧ kx < t1)
    (hB : headsB #[⟨some t1, .move (.tmp s), y1, q1, e1, none⟩, ⟨some (t1 + 1), .nilCheck (.tmp t1), y2, q2, e2, none⟩, ⟨some (t1 + 2), .fieldAddr T' (.tmp (t1 + 1)) kf, y3, q3, e3, none⟩, ⟨some (t1 + 3), .move (.tmp kx), y4, q4, e4, none⟩,
      ⟨some (t1 + 4), .call { callee := .value (.func FU), args := #[.tmp bp], argTypes := at1 }, y5, q5, e5, none⟩, ⟨some (t1 + 5), .convert I J (.tmp (t1 + 4)), y6, q6, e6, none⟩,
      ⟨some (t1 + 6), .call { callee := .value (.func FS), args := #[.tmp bp, .tmp (t1 + 5)], argTypes := at2 }, y7, q7, e7, none⟩, ⟨some (t1 + 7), .call { callee := .value (.func FSet), args := #[.tmp (t1 + 2), .tmp (t1 + 3), .tmp (t1 + 6)], argTypes := at3 }, y8, q8, e8, none⟩] 4 = true) :
    SwC gE E N nt ver K lo t s bp rs kx tk e i [] (Code.region r #[⟨some t1, .move (.tmp s), y1, q1, e1, none⟩, ⟨some (t1 + 1), .nilCheck (.tmp t1), y2, q2, e2, none⟩, ⟨some (t1 + 2), .fieldAddr T' (.tmp (t1 + 1)) kf, y3, q3, e3, none⟩, ⟨some (t1 + 3), .move (.tmp kx), y4, q4, e4, none⟩,
      ⟨some (t1 + 4), .call { callee := .value (.func FU), args := #[.tmp bp], argTypes := at1 }, y5, q5, e5, none⟩, ⟨some (t1 + 5), .convert I J (.tmp (t1 + 4)), y6, q6, e6, none⟩,
      ⟨some (t1 + 6), .call { callee := .value (.func FS), args := #[.tmp bp, .tmp (t1 + 5)], argTypes := at2 }, y7, q7, e7, none⟩, ⟨some (t1 + 7), .call { callee := .value (.func FSet), args := #[.tmp (t1 + 2), .tmp (t1 + 3), .tmp (t1 + 6)], argTypes := at3 }, y8, q8, e8, none⟩] true) := by
  intro O rb b o T a w cs st Q k m nn D hN hh htk hkx hik hk hst hpre hc hM hnn hg hq1 hq2 hq3
  exact reg_set hm heU hCU heS hS heT hT hI hJ hFA hN hh.head hh.tail.head hkx hk hst hc hM hnn hg hD hd hB (hq3 (by simpa using hik))
theorem swC_cons {s bp rs kx tk e i t1 J1 J2 r y1 y2 off lo' t' : Nat} {d : Int} {q1 q2 : String} {e1 e2 : Array Edge} {ver : Int} {L : List (Nat × Int × Sch)} {f : Sch} {c1 c2 : Code} {iI : Int} (hiI : iI = (i : Nat))
    (hk : KOK N lo t ((s, .int .i64 0) :: (bp, .int .i64 0) :: K)) (hD : Dims N nt lo t) (hd : t ≤ t1 ∧ t1 + 1 < nt ∧ N ≤ tk ∧ tk < t ∧ kx < lo ∧ kx < t1 ∧ lo ≤ lo' ∧ t ≤ t') (hi : i ≤ 4294967295)
    (h1 : KB TagMem Tryz.prog N nt gE E ver true K lo' t' s bp rs c1 off f) (h2 : SwC gE E N nt ver K lo t s bp rs kx tk e (i + 1) L c2) :
    SwC gE E N nt ver K lo t s bp rs kx tk e i ((off, d, f) :: L) ((Code.region r #[⟨some (t1 + 1), .binOp .eql J1 (.tmp tk) (.const (.int .u32 iI)) J2, y1, q1, e1, none⟩, ⟨some t1, .assign (.tmp (t1 + 1)), y2, q2, e2, none⟩] false).seq (.cond (.tmp t1) c1 c2)) := by
  subst hiI
  intro O rb b o T a w cs st Q k m nn D hN hh htk hkx hik hkk hst hpre hc hM hnn hg hq1 hq2 hq3
  obtain ⟨d1, d2, d3, d4, d5, d6, d7, d8⟩ := hd
  have g1 := hD.dOne; have g2 := hD.dLo; have g3 := hD.dT; have g4 := hD.dN
  refine wp_seq (wp_reg ?_)
  refine wl_bin (r := .bool (decide ((k : Int) = i))) htk (eqGuard_at_int ..) (by simp [binOp, Op.intCmp]; try rfl) ?_
  refine wl_assign (aget_put_same _ _ _ (by omega)) ?_
  refine wpList_nil ?_
  have f1 : Fr N lo t nt a ((a.put (some (t1 + 1)) (.bool (decide ((k : Int) = i)))).put (some t1) (.bool (decide ((k : Int) = i)))) := ((Fr.refl N lo t nt a).put _ _ (by omega)).put _ _ (by omega)
  have x1 : aget ((a.put (some (t1 + 1)) (.bool (decide ((k : Int) = i)))).put (some t1) (.bool (decide ((k : Int) = i)))) t1 = .bool (decide ((k : Int) = i)) := aget_put_same _ _ _ (by simp only [size_put]; omega)
  have htk1 : aget ((a.put (some (t1 + 1)) (.bool (decide ((k : Int) = i)))).put (some t1) (.bool (decide ((k : Int) = i)))) tk = .int .u32 (k : Nat) := by rw [aget_put_other _ _ _ _ (by omega), aget_put_other _ _ _ _ (by omega)]; exact htk
  have hkx1 : aget ((a.put (some (t1 + 1)) (.bool (decide ((k : Int) = i)))).put (some t1) (.bool (decide ((k : Int) = i)))) kx = .int .u32 (k : Nat) := by rw [aget_put_other _ _ _ _ (by omega), aget_put_other _ _ _ _ (by omega)]; exact hkx
  generalize ((a.put (some (t1 + 1)) (.bool (decide ((k : Int) = i)))).put (some t1) (.bool (decide ((k : Int) = i)))) = a1 at *
  have hh1 := hh.frR (kokR hk) hD f1
  have hN1 := f1.size.trans hN
  simp only [Exit.then]
  by_cases hki : k = i
  · have hdec : decide ((k : Int) = i) = true := by simp; omega
    rw [hdec] at x1
    refine wp_cond_true x1 ?_
    refine h1 (mO m O) rb b o T a1 w cs st Q hN1 hh1 hst (hpre 0 _ rfl (by omega)) ?_ ?_
    · intro a2 w2 cs2 sp r x r' k1 k2 k3 k4 k5 k6 k7
      exact hq1 0 _ rfl (by omega) a2 w2 cs2 sp r x r' k1 k2 k3 (f1.trans (k4.mono d7 d8)) k5 k6 k7
    · intro a2 w2 k1 k2 k3 k4 k5
      exact hq2 0 _ rfl (by omega) a2 w2 k1 k2 (k3.trans f1.defers) k4 k5
  · have hdec : decide ((k : Int) = i) = false := by simp; omega
    rw [hdec] at x1
    refine wp_cond_false x1 ?_
    refine h2 O rb b o T a1 w cs st Q k m nn D hN1 hh1 htk1 hkx1 (by omega) hkk hst (fun j c hj hkj => hpre (j + 1) c (by simpa using hj) (by omega)) hc hM hnn hg ?_ ?_ ?_
    · intro j c hj hkj a2 w2 cs2 sp r x r' k1 k2 k3 k4 k5 k6 k7
      exact hq1 (j + 1) c (by simpa using hj) (by omega) a2 w2 cs2 sp r x r' k1 k2 k3 (f1.trans k4) k5 k6 k7
    · intro j c hj hkj a2 w2 k1 k2 k3 k4 k5
      exact hq2 (j + 1) c (by simpa using hj) (by omega) a2 w2 k1 k2 (k3.trans f1.defers) k4 k5
    · intro hl a2 w1 w2 g v3 k1 k2 k3 k4 k5
      exact hq3 (by simp only [List.length_cons]; omega) a2 w1 w2 g v3 k1 k2 k3 k4 (f1.trans k5)
end
end Go.Proofs.YtmpilpgabelmiaaGreatDoor

/- Known tags, read: the loop over the tags of a part. -/
namespace Go.Proofs.YtmpilpgabelmiaaGreatDoor
open Go Go.RowKit Go.Maps
set_option linter.unusedVariables false

/-- How many of them are not as by default. -/
def nU : List (Nat × Int × Sch) → List GV → Nat
  | c :: L, v :: vs => (if usual c.2.2 c.2.1 v then 0 else 1) + nU L vs
  | _, _ => 0
theorem nU_set : ∀ (L : List (Nat × Int × Sch)) (vs : List GV) (k : Nat) (x : GV), nU L (vs.set k x) ≤ nU L vs + 1
  | [], vs, k, x => by simp [nU]
  | c :: L, [], k, x => by simp [nU]
  | c :: L, v :: vs, 0, x => by
    simp only [List.set_cons_zero, nU]
    split <;> split <;> omega
  | c :: L, v :: vs, k + 1, x => by
    have := nU_set L vs k x
    simp only [List.set_cons_succ, nU]
    omega
theorem usual_dfl {f : Sch} {d : Int} (h : knd f d = true) : usual f d (dfl f d) = true := by
  cases f with
  | leaf k => cases k <;> simp [knd] at h <;> simp [usual, dfl]
  | list nul z e => rfl
  | _ => simp [knd] at h
theorem nU_dfl : ∀ {L : List (Nat × Int × Sch)}, (∀ c ∈ L, knd c.2.2 c.2.1 = true) → nU L (L.map fun c => dfl c.2.2 c.2.1) = 0
  | [], _ => rfl
  | c :: L, h => by
    simp only [List.map_cons, nU, usual_dfl (h c (List.mem_cons_self ..)), if_true, nU_dfl fun c hc => h c (List.mem_cons_of_mem _ hc)]
def ksO (ver : Int) (L : List (Nat × Int × Sch)) : List (GV × Pr GV) := L.map fun c => (dfl c.2.2 c.2.1, rd ver true c.2.2)
def KCell : Sch → List Value → Nat → Prop
  | .leaf k, cs, p => p + top (.leaf k) ≤ cs.length
  | .list _ _ _, cs, p => ∃ ad n c, cs[p]? = some (.slice ad n c)
  | _, _, _ => False
def KFr (f : Sch) (cs : List Value) (p : Nat) : Prop := isListS f = true → cs[p]? = some (.slice none 0 0)
theorem kpre_of {f : Sch} {cs : List Value} {p : Nat} {st : Option (List UInt8)} (h : KCell f cs p) (h2 : st = none ∨ KFr f cs p) : KPre f cs p st := by
  cases f <;> simp only [KCell] at h <;> try exact h.elim
  · exact h
  · rcases h2 with h2 | h2
    · exact .inr ⟨h2, h⟩
    · exact .inl (h2 rfl)
theorem kcell_fresh {f : Sch} {d : Int} {cs : List Value} {p : Nat} (hk : knd f d = true) (h : FreshD cs p d f) : KCell f cs p ∧ KFr f cs p := by
  cases f with
  | leaf k =>
    refine ⟨?_, fun h => nomatch h⟩
    have h0 : ∀ i u, (dcells (.leaf k) d)[i]? = some u → p + i < cs.length := fun i u hi => (List.getElem?_eq_some_iff.1 (h i u hi)).1
    cases k <;> simp [knd] at hk <;> simp only [KCell, top]
    · exact h0 0 _ rfl
    · exact h0 0 _ rfl
    · have := h0 15 (.int .u8 0) (by simp [dcells]); omega
    · exact h0 0 _ rfl
  | list nul z e => exact ⟨⟨_, _, _, h 0 _ rfl⟩, fun _ => h 0 _ rfl⟩
  | _ => simp [knd] at hk
theorem rep_dfl {RT : RTags} {ver : Int} {flex : Bool} {f : Sch} {d : Int} {cs : List Value} {p b T : Nat} {w : World} (O : List Nat) (hk : knd f d = true) (hB : Blk w b cs T) (h : FreshD cs p d f) : Rep RT O w ver flex f b p (dfl f d) := by
  have h0 : ∀ i u, (dcells f d)[i]? = some u → w.cell? ⟨b, p + i, none⟩ = some u := fun i u hi => hB.cell_some (h i u hi)
  cases f with
  | leaf k =>
    cases k <;> simp [knd] at hk <;> simp only [dfl, Rep, RepLeaf]
    · exact ⟨h0 0 _ rfl, hk⟩
    · exact h0 0 _ rfl
    · refine ⟨by simp, fun i u hi => ?_⟩
      have hlt : i < 16 := by
        have := (List.getElem?_eq_some_iff.1 hi).1
        simpa using this
      have hu : u = 0 := by
        rw [List.getElem?_replicate] at hi
        rw [if_pos hlt] at hi
        cases hi
        rfl
      subst hu
      exact h0 i _ (by simp only [dcells]; rw [List.getElem?_replicate, if_pos hlt]; rfl)
    · exact h0 0 _ rfl
  | list nul z e =>
    cases nul with
    | some m => simp [knd] at hk
    | none => exact ⟨none, 0, h0 0 _ rfl, by simp, (fun h => nomatch h), fun h => absurd rfl h⟩
  | _ => simp [knd] at hk

theorem many_len {α : Type} {p : Pr α} : ∀ {n : Nat} {st : Option (List UInt8)} {l : List α} {r : List UInt8}, st.bind (rdMany p n) = some (l, r) → l.length = n
  | 0, st, l, r, h => by
    cases st with
    | none => cases h
    | some bs =>
      simp only [Option.bind_some, rdMany, Pr.pure, Option.some.injEq, Prod.mk.injEq] at h
      rw [← h.1]
      rfl
  | n + 1, st, l, r, h => by
    rw [many_st] at h
    cases hx : st.bind (rdMany p n) with
    | none => rw [hx] at h; cases h
    | some q =>
      rw [hx] at h
      have := many_len hx
      cases hy : p q.2 with
      | none => rw [Option.bind_some, hy] at h; cases h
      | some z =>
        rw [Option.bind_some, hy] at h
        simp only [Option.bind_some, Option.some.injEq, Prod.mk.injEq] at h
        rw [← h.1]
        simp [this]
theorem many_prefix {α : Type} {p : Pr α} {j : Nat} : ∀ {n : Nat} {st : Option (List UInt8)} {l : List α} {r : List UInt8}, st.bind (rdMany p n) = some (l, r) → j ≤ n → ∃ r', st.bind (rdMany p j) = some (l.take j, r')
  | 0, st, l, r, h, hj => by
    obtain rfl : j = 0 := by omega
    have := many_len h
    have hl : l = [] := List.eq_nil_of_length_eq_zero this
    subst hl
    exact ⟨r, h⟩
  | n + 1, st, l, r, h, hj => by
    by_cases hjn : j = n + 1
    · subst hjn
      have := many_len h
      exact ⟨r, by rw [h, List.take_of_length_le (by omega)]⟩
    · rw [many_st] at h
      cases hx : st.bind (rdMany p n) with
      | none => rw [hx] at h; cases h
      | some q =>
        rw [hx] at h
        cases hy : p q.2 with
        | none => rw [Option.bind_some, hy] at h; cases h
        | some z =>
          rw [Option.bind_some, hy] at h
          simp only [Option.bind_some, Option.some.injEq, Prod.mk.injEq] at h
          obtain ⟨r', h2⟩ := many_prefix (l := q.1) (r := q.2) hx (show j ≤ n by omega)
          have hl := many_len hx
          refine ⟨r', ?_⟩
          rw [h2, ← h.1, List.take_append_of_le_length (by omega)]
theorem rdKn_st (ks : List (GV × Pr GV)) (st : Option (List UInt8)) (n : Nat) (hv : ∀ m r, st.bind rdUv = some (m, r) → m = n) :
    st.bind (rdKn true ks) = (((st.bind rdUv).map (·.2)).bind (rdMany rdTag1 n)).bind fun q => (kfold ks q.1 (ks.map (·.1), [])).map fun z => (kval z.1 z.2, q.2) := by
  unfold rdKn rdTagsRaw
  simp only [if_true]
  rw [bind_st, bind_st]
  cases hx : st.bind rdUv with
  | none => rfl
  | some q =>
    have := hv q.1 q.2 hx
    subst this
    rfl
theorem kfold_none {ks : List (GV × Pr GV)} {l : List (Nat × List UInt8)} {s : List GV × List (Nat × List UInt8)} {j : Nat} (h : kfold ks (l.take j) s = none) : kfold ks l s = none := by
  rw [← List.take_append_drop j l, kfold_app, h]
  rfl
theorem kfold_len {ks : List (GV × Pr GV)} : ∀ {l : List (Nat × List UInt8)} {vs vs' : List GV} {us us' : List (Nat × List UInt8)}, kfold ks l (vs, us) = some (vs', us') → vs'.length = vs.length
  | [], vs, vs', us, us', h => by
    simp only [kfold, Option.some.injEq, Prod.mk.injEq] at h
    rw [h.1]
  | t :: l, vs, vs', us, us', h => by
    simp only [kfold] at h
    cases hs : kstep ks (vs, us) t with
    | none => rw [hs] at h; cases h
    | some q =>
      rw [hs] at h
      have h2 := kfold_len (vs := q.1) (us := q.2) h
      have h3 : q.1.length = vs.length := by
        unfold kstep at hs
        split at hs
        · cases hs; rfl
        · obtain ⟨x, -, hx⟩ := Option.map_eq_some_iff.1 hs
          rw [← hx]
          simp
      rw [h2, h3]

section
variable {gE : Nat} {E : Value} {K : Slots} {N nt lo t : Nat} {ver : Int}
theorem RSt.shut {m : Option Nat} {O : List Nat} {w : World} {rb b T : Nat} {cs : List Value} {st : Option (List UInt8)} (h : RSt gE E (mO m O) w rb b cs T st) (hrb : rb ∈ O) (hb : b ∈ O) : RSt gE E O w rb b cs T st :=
  ⟨h.rdr.mono fun k hk => mO_sub hk, h.blk, hrb, hb, h.ne, fun k hk => h.lt k (mO_sub hk), h.glob, fun hk => h.gO (mO_sub hk)⟩
/-- A cell of the part that the tags turn. -/
def Touch (L : List (Nat × Int × Sch)) (e o k : Nat) : Prop := k = o + e ∨ ∃ c ∈ L, o + c.1 ≤ k ∧ k < o + c.1 + top c.2.2
structure KSame (L : List (Nat × Int × Sch)) (e o : Nat) (cs cs' : List Value) : Prop where
  length : cs'.length = cs.length
  same : ∀ k, ¬ Touch L e o k → cs'[k]? = cs[k]?
/-- The fields of the known tags and the unknown tags lie apart. -/
structure Apart (L : List (Nat × Int × Sch)) (e : Nat) : Prop where
  fields : ∀ (i j : Nat) (ci cj : Nat × Int × Sch), i ≠ j → L[i]? = some ci → L[j]? = some cj → ci.1 + top ci.2.2 ≤ cj.1 ∨ cj.1 + top cj.2.2 ≤ ci.1
  tags : ∀ c ∈ L, e < c.1 ∨ c.1 + top c.2.2 ≤ e
/-- What the loop knows behind j tags. -/
structure KLs (gE : Nat) (E : Value) (ver : Int) (L : List (Nat × Int × Sch)) (e : Nat) (O : List Nat) (rb b o T : Nat) (st : Option (List UInt8)) (w1 : World) (cs1 : List Value) (j : Nat) (cs : List Value) (m : Option Nat) (nn : Nat) (D : VD) (w : World) : Prop where
  cell : cs[o + e]? = some (.map m)
  map : MapAt w m nn D
  cnt : nn ≤ j
  new : ∀ g, m = some g → w1.heap.size ≤ g
  keeps : Keeps [rb, b] w1 w
  same : KSame L e o cs1 cs
  cells : ∀ c ∈ L, KCell c.2.2 cs (o + c.1)
  done : ∀ raw r, st.bind (rdMany rdTag1 j) = some (raw, r) → ∃ vs us, kfold (ksO ver L) raw (L.map (fun c => dfl c.2.2 c.2.1), []) = some (vs, us) ∧ vs.length = L.length ∧
    (∀ (k : Nat) (c : Nat × Int × Sch) (v : GV), L[k]? = some c → vs[k]? = some v → Rep TagMem (mO m O) w ver true c.2.2 b (o + c.1) v) ∧ View (mO m O) w D us ∧ (∀ u ∈ us, u.2.length ≤ 4294967295) ∧ nU L vs + us.length ≤ j ∧ (∀ (k : Nat) (c : Nat × Int × Sch), L[k]? = some c → (∀ u ∈ raw, u.1 ≠ k) → KFr c.2.2 cs (o + c.1))
end
end Go.Proofs.YtmpilpgabelmiaaGreatDoor

/- Known tags, read: what the loop knows behind one more tag. -/
namespace Go.Proofs.YtmpilpgabelmiaaGreatDoor
open Go Go.RowKit Go.Maps
set_option linter.unusedVariables false

section
variable {gE : Nat} {E : Value} {K : Slots} {N nt lo t : Nat} {ver : Int}
theorem ksame_trans {L : List (Nat × Int × Sch)} {e o : Nat} {a b c : List Value} (h : KSame L e o a b) (k : KSame L e o b c) : KSame L e o a c := ⟨k.length.trans h.length, fun i hi => (k.same i hi).trans (h.same i hi)⟩
theorem ksame_out {L : List (Nat × Int × Sch)} {e o : Nat} {a b : List Value} {c : Nat × Int × Sch} (hm : c ∈ L) (h : SameOut a b (o + c.1) (o + (c.1 + top c.2.2))) : KSame L e o a b :=
  ⟨h.length, fun i hi => h.out i (by
    by_cases h1 : i < o + c.1
    · exact .inl h1
    · refine .inr ?_
      rcases Nat.lt_or_ge i (o + (c.1 + top c.2.2)) with h2 | h2
      · exact absurd (.inr ⟨c, hm, by omega, by omega⟩) hi
      · exact h2)⟩
theorem ksame_set {L : List (Nat × Int × Sch)} {e o : Nat} {a : List Value} {x : Value} : KSame L e o a (a.set (o + e) x) :=
  ⟨by simp, fun i hi => List.getElem?_set_ne (fun h => hi (.inl h.symm))⟩
theorem kcell_same {f : Sch} {cs cs' : List Value} {p : Nat} (h : KCell f cs p) (hl : cs'.length = cs.length) (hs : ∀ i, i < top f → cs'[p + i]? = cs[p + i]?) : KCell f cs' p := by
  cases f <;> simp only [KCell] at h ⊢ <;> try exact h
  · omega
  · obtain ⟨ad, n, c, h⟩ := h
    have := hs 0 (by simp [top])
    rw [Nat.add_zero] at this
    exact ⟨ad, n, c, this.trans h⟩
theorem kfr_same {f : Sch} {cs cs' : List Value} {p : Nat} (h : KFr f cs p) (hs : ∀ i, i < top f → cs'[p + i]? = cs[p + i]?) : KFr f cs' p := by
  intro hf
  cases f with
  | list nul z e =>
    have := hs 0 (by simp [top])
    rw [Nat.add_zero] at this
    exact this.trans (h rfl)
  | _ => simp [isListS] at hf
theorem kcell_rep {f : Sch} {d : Int} {cs : List Value} {p b T : Nat} {O : List Nat} {w : World} {v : GV} {cs0 : List Value} (hk : knd f d = true) (hB : Blk w b cs T) (h : Rep TagMem O w ver true f b p v) (h0 : KCell f cs0 p) (hl : cs.length = cs0.length) : KCell f cs p := by
  cases f with
  | leaf k => simp only [KCell] at h0 ⊢; omega
  | list nul z e =>
    cases nul with
    | some m => simp [knd] at hk
    | none =>
      cases v <;> simp only [Rep] at h <;> try exact h.elim
      · exact absurd h.1 (by simp)
      · obtain ⟨a, cap, h1, -⟩ := h
        rw [hB.cell] at h1
        exact ⟨_, _, _, h1⟩
  | _ => simp [knd] at hk
theorem view_shut {m : Option Nat} {O : List Nat} {w : World} {D : VD} {l : List (Nat × List UInt8)} (h : View (mO m O) w D l) : View O w D l := h.mono fun k hk => mO_sub hk


theorem rst_eq' {O : List Nat} {w : World} {rb b T : Nat} {cs : List Value} {st st' : Option (List UInt8)} (h : RSt gE E O w rb b cs T st) (e : st' = st) : RSt gE E O w rb b cs T st' := e ▸ h
theorem tag_next {X : Option (List (Nat × List UInt8) × List UInt8)} {k : Nat} (hv : ∀ n r, (X.map (·.2)).bind rdUv = some (n, r) → n = k) {sp r : List UInt8} (h : (((X.map (·.2)).bind rdUv).map (·.2)).bind rdSp = some (sp, r)) :
    ∃ raw r0 r1, X = some (raw, r0) ∧ rdUv r0 = some (k, r1) ∧ rdSp r1 = some (sp, r) := by
  cases hX : X with
  | none => rw [hX] at h; cases h
  | some q =>
    rw [hX] at h hv
    simp only [Option.map_some, Option.bind_some] at h hv
    cases hx : rdUv q.2 with
    | none => rw [hx] at h; cases h
    | some a =>
      have := hv a.1 a.2 hx
      subst this
      rw [hx] at h
      exact ⟨q.1, q.2, a.2, rfl, hx, h⟩
theorem many_tag (st : Option (List UInt8)) (j : Nat) : st.bind (rdMany rdTag1 (j + 1)) = (st.bind (rdMany rdTag1 j)).bind fun q => (rdUv q.2).bind fun a => (rdSp a.2).bind fun c => some (q.1 ++ [(a.1, c.1)], c.2) := by
  rw [many_st]
  congr 1
  funext q
  have h := tag1_sp (some q.2)
  simp only [Option.bind_some] at h
  rw [h]
  cases rdUv q.2 with
  | none => rfl
  | some a =>
    simp only [Option.bind_some]
    cases rdSp a.2 <;> rfl
theorem many_tag_st (st : Option (List UInt8)) (j : Nat) : (st.bind (rdMany rdTag1 (j + 1))).map (·.2) = (((((st.bind (rdMany rdTag1 j)).map (·.2)).bind rdUv).map (·.2)).bind rdSp).map (·.2) := by
  rw [many_tag]
  cases st.bind (rdMany rdTag1 j) with
  | none => rfl
  | some q =>
    simp only [Option.bind_some, Option.map_some]
    cases rdUv q.2 with
    | none => rfl
    | some a =>
      simp only [Option.bind_some, Option.map_some]
      cases rdSp a.2 <;> rfl
theorem many_tag_in {st : Option (List UInt8)} {j k : Nat} (hv : ∀ n r, ((st.bind (rdMany rdTag1 j)).map (·.2)).bind rdUv = some (n, r) → n = k) {raw' : List (Nat × List UInt8)} {r : List UInt8} (h : st.bind (rdMany rdTag1 (j + 1)) = some (raw', r)) :
    ∃ raw r0 r1 sp, st.bind (rdMany rdTag1 j) = some (raw, r0) ∧ rdUv r0 = some (k, r1) ∧ rdSp r1 = some (sp, r) ∧ raw' = raw ++ [(k, sp)] ∧ ((((st.bind (rdMany rdTag1 j)).map (·.2)).bind rdUv).map (·.2)).bind rdSp = some (sp, r) := by
  rw [many_tag] at h
  cases hX : st.bind (rdMany rdTag1 j) with
  | none => rw [hX] at h; cases h
  | some q =>
    rw [hX] at h hv
    simp only [Option.map_some, Option.bind_some] at h hv ⊢
    cases hx : rdUv q.2 with
    | none => rw [hx] at h; cases h
    | some a =>
      have := hv a.1 a.2 hx
      subst this
      rw [hx] at h
      simp only [Option.bind_some, Option.map_some] at h ⊢
      cases hy : rdSp a.2 with
      | none => rw [hy] at h; cases h
      | some c =>
        rw [hy] at h
        simp only [Option.bind_some, Option.some.injEq, Prod.mk.injEq] at h
        refine ⟨q.1, q.2, a.2, c.1, rfl, hx, ?_, h.1.symm, ?_⟩
        · rw [← h.2]; exact hy
        · rw [← h.2]
theorem sp_len {bs sp r : List UInt8} (h : rdSp bs = some (sp, r)) : sp.length ≤ 4294967295 := by
  unfold rdSp at h
  obtain ⟨n, r', h1, h2⟩ := bind_some h
  have := (out_uv (r := r') h1).1
  have := (out_take h2).1
  omega
theorem Rep.openNew {ver : Int} {flex : Bool} {O : List Nat} {w : World} {n : Nat} (hn : w.heap.size ≤ n) : ∀ {s : Sch} {b o : Nat} {v : GV}, Rep TagMem O w ver flex s b o v → Rep TagMem (n :: O) w ver flex s b o v
  | .leaf k, b, o, v, h => by
    have h0 : ∀ p q x, w.cell? ⟨p, q, none⟩ = some x → p ∉ O → p ∉ n :: O := fun p q x h1 h2 h3 => by
      have := World.block_lt_of_cell? w _ h1
      simp only at this
      rcases List.mem_cons.1 h3 with rfl | h3
      · omega
      · exact h2 h3
    cases k <;> cases v <;> simp only [Rep, RepLeaf] at h ⊢ <;> try exact h
    · obtain ⟨⟨p, q, h1, h2, h3⟩, h4⟩ := h
      exact ⟨⟨p, q, h1, h0 p q _ h3 h2, h3⟩, h4⟩
    · obtain ⟨⟨x, h1, h2⟩, h4⟩ := h
      exact ⟨⟨x, h1, h2.openNew hn⟩, h4⟩
    · obtain ⟨⟨p, q, h1, h2, h3⟩, h4⟩ := h
      exact ⟨⟨p, q, h1, h0 p q _ h3 h2, h3⟩, h4⟩
  | .list nul z e, b, o, v, h => by
    cases v <;> simp only [Rep] at h ⊢ <;> try exact h
    obtain ⟨a, cap, h1, h2, h3, h4⟩ := h
    refine ⟨a, cap, h1, h2, h3, fun hne => ?_⟩
    obtain ⟨p, q, rfl, h5, h6, h7⟩ := h4 hne
    exact ⟨p, q, rfl, by simp only [List.mem_cons, not_or]; exact ⟨by omega, h5⟩, h6, fun i v hi => Rep.openNew hn (h7 i v hi)⟩
  | .opt e, b, o, v, h => by
    cases v <;> simp only [Rep] at h ⊢ <;> try exact h
    all_goals
      obtain ⟨p, q, h1, h5, h6, h7⟩ := h
      exact ⟨p, q, h1, by simp only [List.mem_cons, not_or]; exact ⟨by omega, h5⟩, h6, Rep.openNew hn h7⟩
  | .done, b, o, v, h => by cases v <;> simp only [Rep] at h ⊢
  | .tags off, b, o, v, h => by
    cases v <;> simp only [Rep] at h ⊢
    obtain ⟨m, k, D, h1, h2, h3, h4, h5, h6⟩ := h
    refine ⟨m, k, D, h1, h2, h3, ⟨h4.sorted, h4.small, h4.size, fun k bs hm => ?_, h4.only⟩, fun g hg hgO => ?_, h6⟩
    · obtain ⟨u1, u2, u3, u4⟩ := h4.there k bs hm
      exact ⟨u1, u2, u3, u4.openNew hn⟩
    · rcases List.mem_cons.1 hgO with e | hgO
      · subst hg
        have := World.ownsMap.lt h2
        omega
      · exact h5 g hg hgO
  | .cons off lo hi f rest, b, o, v, h => by
    cases v <;> simp only [Rep] at h ⊢ <;> try exact h
    exact ⟨fun hv => Rep.openNew hn (h.1 hv), Rep.openNew hn h.2⟩
  | .ktag off d f rest, b, o, v, h => by
    cases v <;> simp only [Rep] at h ⊢ <;> try exact h
    exact ⟨Rep.openNew hn h.1, Rep.openNew hn h.2.1, h.2.2⟩
theorem knd_one {f : Sch} {d : Int} (h : knd f d = true) : 1 ≤ top f := by
  cases f with
  | leaf k => cases k <;> simp [top]
  | list nul z e => simp [top]
  | _ => simp [knd] at h
theorem ksO_get {L : List (Nat × Int × Sch)} {k : Nat} {c : Nat × Int × Sch} (h : L[k]? = some c) : (ksO ver L)[k]? = some (dfl c.2.2 c.2.1, rd ver true c.2.2) := by
  unfold ksO
  rw [List.getElem?_map, h]
  rfl
theorem ksO_out {L : List (Nat × Int × Sch)} {k : Nat} (h : L.length ≤ k) : (ksO ver L)[k]? = none := by
  rw [List.getElem?_eq_none_iff]
  unfold ksO
  simpa using h
variable {L : List (Nat × Int × Sch)} {e : Nat} {O : List Nat} {rb b o T j k : Nat} {st : Option (List UInt8)} {w1 w4 w5 w6 : World} {cs1 cs2 cs6 : List Value} {m : Option Nat} {nn : Nat} {D : VD}
/-- What lies in the part's block, where neither its reader's own block nor a cell of it turns. -/
theorem rep_other {f : Sch} {p : Nat} {v : GV} {O : List Nat} {w w' : World} (h : Rep TagMem O w ver true f b p v) (hB : Blk w b cs2 T) (hB' : Blk w' b cs6 T) (hk : Keeps O w w') (hs : ∀ i, i < top f → cs6[p + i]? = cs2[p + i]?) : Rep TagMem O w' ver true f b p v :=
  Rep.move tags_keep hk h fun i hi => by rw [hB.cell, hB'.cell]; exact hs i hi
theorem kls_moved (I : KLs gE E ver L e O rb b o T st w1 cs1 j cs2 m nn D w4) (hk : Keeps [rb] w4 w6) (hB : Blk w4 b cs2 T) (hB' : Blk w6 b cs2 T) (hrbO : rb ∈ O) (hgm : ∀ g, m = some g → g ≠ rb ∧ g ≠ b) : KLs gE E ver L e O rb b o T st w1 cs1 j cs2 m nn D w6 := by
  have hkO : Keeps (mO m O) w4 w6 := hk.mono (by
    intro i hi
    simp only [List.mem_cons, List.not_mem_nil, or_false] at hi
    subst hi
    exact mO_sub hrbO)
  refine ⟨I.cell, I.map.keeps hk (fun g hg => by simpa using (hgm g hg).1), I.cnt, I.new, I.keeps.trans (hk.mono (by simp)), I.same, I.cells, fun raw r hraw => ?_⟩
  obtain ⟨vs, us, d1, d2, d3, d4, d5, d6, d7⟩ := I.done raw r hraw
  exact ⟨vs, us, d1, d2, fun k c v hc hv => rep_other (d3 k c v hc hv) hB hB' hkO fun _ _ => rfl, d4.keeps hkO, d5, d6, d7⟩
theorem kls_known {c : Nat × Int × Sch} {sp r x r'} (hap : Apart L e) (hkn : ∀ c ∈ L, knd c.2.2 c.2.1 = true) (I : KLs gE E ver L e O rb b o T st w1 cs1 j cs2 m nn D w4)
    (hv : ∀ n r, ((st.bind (rdMany rdTag1 j)).map (·.2)).bind rdUv = some (n, r) → n = k) (hc : L[k]? = some c) (hsp : ((((st.bind (rdMany rdTag1 j)).map (·.2)).bind rdUv).map (·.2)).bind rdSp = some (sp, r)) (hrd : rd ver true c.2.2 sp = some (x, r'))
    (hB4 : Blk w4 b cs2 T) (hst : RSt gE E (mO m O) w6 rb b cs6 T (some r)) (hk : Keeps [rb, b] w4 w6) (hso : SameOut cs2 cs6 (o + c.1) (o + (c.1 + top c.2.2))) (hrep : Rep TagMem (mO m O) w6 ver true c.2.2 b (o + c.1) x) (hgm : ∀ g, m = some g → g ≠ rb ∧ g ≠ b) :
    RSt gE E (mO m O) w6 rb b cs6 T ((st.bind (rdMany rdTag1 (j + 1))).map (·.2)) ∧ KLs gE E ver L e O rb b o T st w1 cs1 (j + 1) cs6 m nn D w6 := by
  have hcm := List.mem_of_getElem? hc
  have hkO : Keeps (mO m O) w4 w6 := hk.mono (by
    intro i hi
    simp only [List.mem_cons, List.not_mem_nil, or_false] at hi
    rcases hi with rfl | rfl
    · exact hst.rbO
    · exact hst.bO)
  have hfo : ∀ (k2 : Nat) (c2 : Nat × Int × Sch), L[k2]? = some c2 → k2 ≠ k → ∀ i, i < top c2.2.2 → cs6[o + c2.1 + i]? = cs2[o + c2.1 + i]? := by
    intro k2 c2 h2 hne i hi
    refine hso.out _ ?_
    rcases hap.fields k2 k c2 c hne h2 hc with h | h <;> omega
  refine ⟨rst_eq' hst ?_, ?_, I.map.keeps hk (fun g hg => by simpa using hgm g hg), by have := I.cnt; omega, I.new, I.keeps.trans hk, ksame_trans I.same (ksame_out hcm hso), ?_, ?_⟩
  · rw [many_tag_st, hsp]; rfl
  · refine (hso.out _ ?_).trans I.cell
    have := hap.tags c hcm
    omega
  · intro c2 hc2
    obtain ⟨k2, hk2⟩ := List.getElem?_of_mem hc2
    by_cases hne : k2 = k
    · subst hne
      rw [hc] at hk2
      cases hk2
      exact kcell_rep (hkn c hcm) hst.blk hrep (I.cells c hcm) hso.length
    · exact kcell_same (I.cells c2 hc2) hso.length (hfo k2 c2 hk2 hne)
  · intro raw' r2 hraw
    obtain ⟨raw, r0, r1, sp2, k1, k2, k3, rfl, k5⟩ := many_tag_in hv hraw
    rw [hsp] at k5
    cases k5
    obtain ⟨vs, us, d1, d2, d3, d4, d5, d6, d7⟩ := I.done raw r0 k1
    refine ⟨vs.set k x, us, ?_, by simpa using d2, ?_, d4.keeps hkO, d5, by have := nU_set L vs k x; omega, ?_⟩
    · rw [kfold_app, d1]
      simp only [Option.bind_some, kfold]
      unfold kstep
      simp only [ksO_get hc, hrd]
      rfl
    · intro k2 c2 v h2 hvv
      by_cases hne : k2 = k
      · subst hne
        rw [hc] at h2
        cases h2
        rw [List.getElem?_set_self (by rw [d2]; exact (List.getElem?_eq_some_iff.1 hc).1)] at hvv
        cases hvv
        exact hrep
      · rw [List.getElem?_set_ne (Ne.symm hne)] at hvv
        exact rep_other (d3 k2 c2 v h2 hvv) hB4 hst.blk hkO (hfo k2 c2 h2 hne)
    · intro k2 c2 h2 hu
      have hne : k2 ≠ k := fun h => hu (k, sp) (by simp) h.symm
      exact kfr_same (d7 k2 c2 h2 fun u hm => hu u (by simp [hm])) (hfo k2 c2 h2 hne)
theorem kls_new {g : Nat} {v3 : Value} (hap : Apart L e) (I : KLs gE E ver L e O rb b o T st w1 cs1 j cs2 m nn D w4)
    (hv : ∀ n r, ((st.bind (rdMany rdTag1 j)).map (·.2)).bind rdUv = some (n, r) → n = k) (hkL : L.length ≤ k) (hkk : k ≤ 4294967295) (hk : Keeps [rb] w4 w5) (hB4 : Blk w4 b cs2 T)
    (h5 : RSt gE E (mO m O) w5 rb b cs2 T (((((st.bind (rdMany rdTag1 j)).map (·.2)).bind rdUv).map (·.2)).bind rdSp |>.map (·.2)))
    (hsp : ∀ sp r, ((((st.bind (rdMany rdTag1 j)).map (·.2)).bind rdUv).map (·.2)).bind rdSp = some (sp, r) → RB (mO m O) w5 v3 sp)
    (hso : SetOut gE E O rb b T (o + e) m D k v3 nn ((((((st.bind (rdMany rdTag1 j)).map (·.2)).bind rdUv).map (·.2)).bind rdSp).map (·.2)) cs2 w5 w6 g) (hrbO : rb ∈ O) (hbO : b ∈ O) (hgm : ∀ g, m = some g → g ≠ rb ∧ g ≠ b) (hw : w1.heap.size ≤ w5.heap.size) :
    RSt gE E (mO (some g) O) w6 rb b (cs2.set (o + e) (.map (some g))) T ((st.bind (rdMany rdTag1 (j + 1))).map (·.2)) ∧ KLs gE E ver L e O rb b o T st w1 cs1 (j + 1) (cs2.set (o + e) (.map (some g))) (some g) (nn + 1) (D.put (kl32 k) (.held v3)) w6 := by
  have hlt : o + e < cs2.length := (List.getElem?_eq_some_iff.1 I.cell).1
  have hcut : ∀ c ∈ L, ∀ i, i < top c.2.2 → (cs2.set (o + e) (.map (some g)))[o + c.1 + i]? = cs2[o + c.1 + i]? := by
    intro c hc i hi
    refine List.getElem?_set_ne ?_
    have := hap.tags c hc
    omega
  have hk5 : Keeps (mO m O) w4 w5 := hk.mono (by
    intro i hi
    simp only [List.mem_cons, List.not_mem_nil, or_false] at hi
    subst hi
    exact mO_sub hrbO)
  have hk6 : Keeps (mO (some g) O) w5 w6 := hso.keeps.mono (by
    intro i hi
    simp only [List.mem_cons, List.not_mem_nil, or_false] at hi
    rcases hi with rfl | rfl
    · exact mem_mO.2 (.inl rfl)
    · exact mO_sub hbO)
  refine ⟨?_, List.getElem?_set_self hlt, hso.own, by have := I.cnt; omega, ?_, ?_, ksame_trans I.same ksame_set, fun c hc => kcell_same (I.cells c hc) (by simp) (hcut c hc), ?_⟩
  · rw [many_tag_st]; exact hso.rst
  · intro g' hg'
    cases hg'
    rcases hso.new with h | ⟨-, h⟩
    · exact I.new g h
    · omega
  · have h0 : Keeps [g, rb, b] w1 w6 := ((I.keeps.mono (by simp)).trans (hk.mono (by simp))).trans (hso.keeps.mono (by simp))
    refine h0.close ?_
    rcases hso.new with h | ⟨-, h⟩
    · exact I.new g h
    · omega
  · intro raw' r2 hraw
    obtain ⟨raw, r0, r1, sp2, k1, k2, k3, rfl, k5⟩ := many_tag_in hv hraw
    obtain ⟨vs, us, d1, d2, d3, d4, d5, d6, d7⟩ := I.done raw r0 k1
    refine ⟨vs, tagIns k sp2 us, ?_, d2, ?_, ?_, ?_, ?_, ?_⟩
    · rw [kfold_app, d1]
      simp only [Option.bind_some, kfold]
      unfold kstep
      simp only [ksO_out hkL]
      rfl
    · intro k2 c2 v h2 hvv
      have hcm := List.mem_of_getElem? h2
      have q1 : Rep TagMem (mO m O) w5 ver true c2.2.2 b (o + c2.1) v := rep_other (d3 k2 c2 v h2 hvv) hB4 h5.blk hk5 fun _ _ => rfl
      have q2 : Rep TagMem (mO (some g) O) w5 ver true c2.2.2 b (o + c2.1) v := by
        rcases hso.new with h | ⟨h, hg⟩
        · rw [← h]; exact q1
        · subst h; exact q1.openNew (by omega)
      exact rep_other q2 h5.blk hso.rst.blk hk6 (hcut c2 hcm)
    · have hV : View (mO (some g) O) w6 D us := by
        have h0 := d4.keeps hk5
        exact ⟨h0.sorted, h0.small, h0.size, fun k bs hm => by
          obtain ⟨u1, u2, u3, u4⟩ := h0.there k bs hm
          exact ⟨u1, u2, u3, hso.rb u4⟩, h0.only⟩
      exact hV.put I.map.isMap hkk (hso.rb (hsp _ _ k5))
    · intro u hu
      rcases tagIns_mem us k sp2 u hu with rfl | hu
      · exact sp_len k3
      · exact d5 u hu
    · rw [length_tagIns k sp2 us d4.sorted]
      split <;> omega
    · intro k2 c2 h2 hu
      exact kfr_same (d7 k2 c2 h2 fun u hm => hu u (by simp [hm])) (hcut c2 (List.mem_of_getElem? h2))
end
end Go.Proofs.YtmpilpgabelmiaaGreatDoor

/- Known tags, read: the loop over the tags of a part, walked. -/
namespace Go.Proofs.YtmpilpgabelmiaaGreatDoor
open Go Go.RowKit Go.Maps
set_option linter.unusedVariables false

section
variable {gE : Nat} {E : Value} {K : Slots} {N nt lo t : Nat} {ver : Int}
theorem rst_eq {O : List Nat} {w : World} {rb b T : Nat} {cs : List Value} {st st' : Option (List UInt8)} (h : RSt gE E O w rb b cs T st) (e : st = st') : RSt gE E O w rb b cs T st' := e ▸ h
/-- The code that reads the tags of a part's end. -/
def KLoop (gE : Nat) (E : Value) (N nt : Nat) (ver : Int) (K : Slots) (lo t s bp rs e : Nat) (L : List (Nat × Int × Sch)) (c : Code) : Prop :=
  ∀ (O : List Nat) (rb b o T : Nat) (a : Act) (w : World) (cs : List Value) (st : Option (List UInt8)) (Q : Exit → Act → World → Prop)
    (hN : a.tmps.size = nt) (hh : Holds ((s, .pointer (some ⟨b, o, none⟩)) :: (bp, .pointer (some ⟨rb, 0, none⟩)) :: K) a) (hst : RSt gE E O w rb b cs T st) (hF : ∀ c ∈ L, FreshD cs (o + c.1) c.2.1 c.2.2) (hFt : cs[o + e]? = some (.map none)) (hdup : DupOK L ((st.bind rdUv).map (·.2)))
    (hq : ∀ a' w' cs', RSt gE E O w' rb b cs' T ((st.bind (rdKn true (ksO ver L))).map (·.2)) → Fr N lo t nt a a' → Keeps [rb, b] w w' → KSame L e o cs cs' →
      (∀ v r, st.bind (rdKn true (ksO ver L)) = some (v, r) → ∃ vs us, v = kval vs us ∧ vs.length = L.length ∧ (∀ (k : Nat) (c : Nat × Int × Sch) (x : GV), L[k]? = some c → vs[k]? = some x → Rep TagMem O w' ver true c.2.2 b (o + c.1) x) ∧ TagMem O w' b (o + e) us ∧ nU L vs + us.length ≤ 4294967295) → Q .normal a' w')
    (hr : ∀ a' w', st.bind (rdKn true (ksO ver L)) = none → a'.tmps.size = nt → a'.defers = a.defers → aget a' rs = E → Keeps [rb, b] w w' → Q .ret a' w'),
    c.wp Tryz.prog Q a w
theorem kloop {s bp rs kx tk e i t0 t1 t2 t5 lo' t' B B1 B2 F r1 r2 r3 r4 r5 J1 J2 J3 J4 y1 y2 y3 y4 y5 y6 y7 y8 y9 y10 : Nat} {q1 q2 q3 q4 q5 q6 q7 q8 q9 q10 : String} {e1 e2 e3 e4 e5 e6 e7 e8 e9 e10 : Array Edge} {at1 at2 : Array TypeId} {L : List (Nat × Int × Sch)} {sw : Code}
    (heU : Enters Tryz.prog F) (hCU : UvC Tryz.prog F) (hk : KOK N lo t ((s, .int .i64 0) :: (bp, .int .i64 0) :: K)) (hD : Dims N nt lo t) (hD' : Dims N nt lo' t')
    (hd : t ≤ t0 ∧ t0 < nt ∧ t ≤ t1 ∧ t1 + 1 < nt ∧ t ≤ t2 ∧ t2 < nt ∧ t ≤ tk ∧ tk < nt ∧ t ≤ t5 ∧ t5 + 1 < nt) (hd2 : lo ≤ i ∧ i < N ∧ lo ≤ kx ∧ kx < N ∧ i ≠ kx ∧ i < lo' ∧ kx < lo' ∧ lo ≤ lo' ∧ t ≤ t' ∧ tk < t') (hBB : B ≠ B1 ∧ B ≠ B2)
    (hL : L ≠ []) (hkn : ∀ c ∈ L, knd c.2.2 c.2.1 = true) (hap : Apart L e) (hsw : SwC gE E N nt ver K lo' t' s bp rs kx tk e 0 L sw) :
    KLoop gE E N nt ver K lo t s bp rs e L (((Code.region r1 #[⟨some t0, .call { callee := .value (.func F), args := #[.tmp bp], argTypes := at1 }, y1, q1, e1, none⟩, ⟨some i, .assign (.tmp t0), y2, q2, e2, none⟩] false).seq (.block B (.loop
      (((Code.region r2 #[⟨some t1, .move (.tmp i), y3, q3, e3, none⟩, ⟨some (t1 + 1), .binOp .gtr J1 (.tmp t1) (.const (.int .u32 0)) J2, y4, q4, e4, none⟩] false).seq (.cond (.tmp (t1 + 1)) .skip (.exit B))).seq
        ((Code.block B1 ((Code.region r3 #[⟨some t2, .call { callee := .value (.func F), args := #[.tmp bp], argTypes := at2 }, y5, q5, e5, none⟩, ⟨some kx, .assign (.tmp t2), y6, q6, e6, none⟩] false).seq
          ((Code.region r4 #[⟨some tk, .move (.tmp kx), y7, q7, e7, none⟩] false).seq (.block B2 sw)))).seq
          (.region r5 #[⟨some t5, .move (.tmp i), y8, q8, e8, none⟩, ⟨some (t5 + 1), .binOp .sub J3 (.tmp t5) (.const (.int .u32 1)) J4, y9, q9, e9, none⟩, ⟨some i, .assign (.tmp (t5 + 1)), y10, q10, e10, none⟩] false))))))) := by
  intro O rb b o T a w cs st Q hN hh hst hF hFt hdup hq hr
  obtain ⟨d1, d2, d3, d4, d5, d6, d7, d8, d9, d10⟩ := hd
  obtain ⟨c1, c2, c3, c4, c5, c6, c7, c8, c9, c10⟩ := hd2
  have g1 := hD.dOne; have g2 := hD.dLo; have g3 := hD.dT; have g4 := hD.dN
  have hrbO := hst.rbO
  have hbO := hst.bO
  have hksl : (ksO ver L).map (·.1) = L.map fun c => dfl c.2.2 c.2.1 := by
    unfold ksO
    rw [List.map_map]
    rfl
  refine wp_seq (reg_uv heU hCU hN hh.tail.head hst hD ⟨d1, d2, c1, c2⟩ fun a1 w1 n hn hi1 hst1 hf1 hk1 hv hv0 _ => ?_)
  have hres := rdKn_st (ksO ver L) st n hv
  rw [hksl] at hres
  rw [hres] at hq hr
  clear hres
  generalize hst1e : (st.bind rdUv).map (·.2) = st1 at *
  have hh1 := hh.frR (kokR hk) hD hf1
  have hN1 := hf1.size.trans hN
  have hrbl := hst1.lt rb hrbO
  have hbl := hst1.lt b hbO
  have hgl : gE < w1.heap.size := World.block_lt_of_cell? w1 _ hst1.glob
  have inv0 : KLs gE E ver L e O rb b o T st1 w1 cs 0 cs none 0 (.map []) w1 := by
    refine ⟨hFt, rfl, Nat.le_refl _, (fun g h => nomatch h), Keeps.refl _ _, ⟨rfl, fun _ _ => rfl⟩, (fun c hc => (kcell_fresh (hkn c hc) (hF c hc)).1), fun raw r hraw => ?_⟩
    · have hr0 : raw = [] := List.eq_nil_of_length_eq_zero (many_len hraw)
      subst hr0
      refine ⟨L.map (fun c => dfl c.2.2 c.2.1), [], rfl, by simp, fun k c v hc hv => ?_, View.nil _ _, (fun u hu => nomatch hu), by rw [nU_dfl hkn]; simp, fun k c hc _ => (kcell_fresh (hkn c (List.mem_of_getElem? hc)) (hF c (List.mem_of_getElem? hc))).2⟩
      rw [List.getElem?_map, hc] at hv
      cases hv
      exact rep_dfl _ (hkn c (List.mem_of_getElem? hc)) hst1.blk (hF c (List.mem_of_getElem? hc))
  refine wp_block ?_
  refine wp_loop (fun a' w' => ∃ j cs' m nn D, j ≤ n ∧ Fr N lo t nt a1 a' ∧ aget a' i = .int .u32 ((n - j : Nat) : Int) ∧ RSt gE E (mO m O) w' rb b cs' T ((st1.bind (rdMany rdTag1 j)).map (·.2)) ∧ KLs gE E ver L e O rb b o T st1 w1 cs j cs' m nn D w') (fun a' _ => (intOf (aget a' i)).toNat) ⟨0, cs, none, 0, .map [], Nat.zero_le _, Fr.refl .., by simpa using hi1, rst_eq hst1 (by cases st1 <;> rfl), inv0⟩ ?_
  rintro a2 w2 ⟨j, cs2, m, nn, D, hjn, hf2, hsi, hr2, I⟩
  have hN2 : a2.tmps.size = nt := hf2.size.trans hN1
  have hh2 := hh1.frR (kokR hk) hD hf2
  have hgm : ∀ g, m = some g → g ≠ rb ∧ g ≠ b ∧ g ≠ gE := fun g hg => by have := I.new g hg; exact ⟨by omega, by omega, by omega⟩
  have hgm2 : ∀ g, m = some g → g ≠ rb ∧ g ≠ b := fun g hg => ⟨(hgm g hg).1, (hgm g hg).2.1⟩
  refine wp_seq (wp_seq (wp_reg ?_))
  refine wl_move hsi ?_
  refine wl_bin (r := .bool (decide ((0 : Int) < ((n - j : Nat) : Int)))) (x := .int .u32 ((n - j : Nat) : Int)) (aget_put_same _ _ _ (by omega)) (eqGuard_at_int ..) (by simp [binOp, Op.intCmp]) ?_
  refine wpList_nil ?_
  generalize ha3 : Act.put (Act.put a2 (some t1) (.int .u32 ((n - j : Nat) : Int))) (some (t1 + 1)) (.bool (decide ((0 : Int) < ((n - j : Nat) : Int)))) = a3
  have hx3 : aget a3 (t1 + 1) = .bool (decide ((0 : Int) < ((n - j : Nat) : Int))) := by rw [← ha3]; exact aget_put_same _ _ _ (by simp only [size_put]; omega)
  have hf3 : Fr N lo t nt a2 a3 := by rw [← ha3]; exact ((Fr.refl N lo t nt a2).put _ _ (by omega)).put _ _ (by omega)
  have hi3 : aget a3 i = .int .u32 ((n - j : Nat) : Int) := by rw [← ha3, aget_put_other _ _ _ _ (by omega), aget_put_other _ _ _ _ (by omega)]; exact hsi
  clear ha3
  have hN3 : a3.tmps.size = nt := hf3.size.trans hN2
  have hh3 := hh2.frR (kokR hk) hD hf3
  by_cases hlt : j < n
  · have hdec : decide ((0 : Int) < ((n - j : Nat) : Int)) = true := by simp; omega
    rw [hdec] at hx3
    refine wp_cond_true hx3 (wp_skip ?_)
    refine wp_seq (wp_block (wp_seq (reg_uv heU hCU hN3 hh3.tail.head hr2 hD ⟨d5, d6, c3, c4⟩ fun a4 w4 k hkk hkx4 hst4 hf4 hk4 hv4 hv40 hsa4 => ?_)))
    have hN4 := hf4.size.trans hN3
    have hh4 := hh3.frR (kokR hk) hD hf4
    have hi4 : aget a4 i = .int .u32 ((n - j : Nat) : Int) := (hsa4 i c5 c2).trans hi3
    simp only [Exit.then]
    refine wp_seq (wp_reg (wl_move hkx4 (wpList_nil ?_)))
    have hf5 : Fr N lo t nt a4 (a4.put (some tk) (.int .u32 (k : Nat))) := (Fr.refl N lo t nt a4).put _ _ (by omega)
    have htk5 : aget (a4.put (some tk) (.int .u32 (k : Nat))) tk = .int .u32 (k : Nat) := aget_put_same _ _ _ (by omega)
    have hkx5 : aget (a4.put (some tk) (.int .u32 (k : Nat))) kx = .int .u32 (k : Nat) := (aget_put_other _ _ _ _ (by omega)).trans hkx4
    have hi5 : aget (a4.put (some tk) (.int .u32 (k : Nat))) i = .int .u32 ((n - j : Nat) : Int) := (aget_put_other _ _ _ _ (by omega)).trans hi4
    generalize (a4.put (some tk) (.int .u32 (k : Nat))) = a5 at *
    have hN5 := hf5.size.trans hN4
    have hh5 := hh4.frR (kokR hk) hD hf5
    have hf15 : Fr N lo t nt a1 a5 := ((hf2.trans hf3).trans hf4).trans hf5
    have hM4 : MapAt w4 m nn D := I.map.keeps hk4 (fun g hg => by simpa using (hgm g hg).1)
    have hB4 : Blk w4 b cs2 T := hst4.blk
    have I4 := kls_moved I hk4 hr2.blk hB4 hrbO hgm2
    have hk14 : Keeps [rb, b] w1 w4 := I4.keeps
    have hnext : ∀ (a6 : Act) (w6 : World) (cs6 : List Value) (m6 : Option Nat) (nn6 : Nat) (D6 : VD) (Q2 : Exit → Act → World → Prop), Fr N lo' t' nt a5 a6 → RSt gE E (mO m6 O) w6 rb b cs6 T ((st1.bind (rdMany rdTag1 (j + 1))).map (·.2)) → KLs gE E ver L e O rb b o T st1 w1 cs (j + 1) cs6 m6 nn6 D6 w6 →
        (∀ a', ((∃ j cs' m nn D, j ≤ n ∧ Fr N lo t nt a1 a' ∧ aget a' i = .int .u32 ((n - j : Nat) : Int) ∧ RSt gE E (mO m O) w6 rb b cs' T ((st1.bind (rdMany rdTag1 j)).map (·.2)) ∧ KLs gE E ver L e O rb b o T st1 w1 cs j cs' m nn D w6) ∧ (intOf (aget a' i)).toNat < (intOf (aget a2 i)).toNat) → Q2 .normal a' w6) →
        (Code.region r5 #[⟨some t5, .move (.tmp i), y8, q8, e8, none⟩, ⟨some (t5 + 1), .binOp .sub J3 (.tmp t5) (.const (.int .u32 1)) J4, y9, q9, e9, none⟩, ⟨some i, .assign (.tmp (t5 + 1)), y10, q10, e10, none⟩] false).wp Tryz.prog Q2 a6 w6 := by
      intro a6 w6 cs6 m6 nn6 D6 Q2 hf6 hr6 I6 hQ
      have hN6 := hf6.size.trans hN5
      have hi6 : aget a6 i = .int .u32 ((n - j : Nat) : Int) := (hf6.same i (by omega) (.inl c6)).trans hi5
      refine wp_reg (wl_move hi6 ?_)
      refine wl_bin (r := .int .u32 ((n - (j + 1) : Nat) : Int)) (x := .int .u32 ((n - j : Nat) : Int)) (aget_put_same _ _ _ (by omega)) (eqGuard_at_int ..) ?_ ?_
      · have e : IntKind.u32.wrap (((n - j : Nat) : Int) - 1) = ((n - (j + 1) : Nat) : Int) := by
          rw [IntKind.wrap_u32]
          omega
        simp [binOp, Op.intArith, e]
      refine wl_assign (aget_put_same _ _ _ (by simp only [size_put]; omega)) ?_
      refine wpList_nil (hQ _ ⟨⟨j + 1, cs6, m6, nn6, D6, hlt, ?_, aget_put_same _ _ _ (by simp only [size_put]; omega), hr6, I6⟩, ?_⟩)
      · exact (hf15.trans (hf6.mono c8 c9)).trans ((((Fr.refl N lo t nt a6).put _ _ (by omega)).put _ _ (by omega)).put _ _ (by omega))
      · rw [aget_put_same _ _ _ (by simp only [size_put]; omega), hsi]
        simp only [intOf]
        omega
    simp only [Exit.then]
    refine wp_block ?_
    refine hsw O rb b o T a5 w4 cs2 _ _ k m nn D hN5 hh5 htk5 hkx5 (Nat.zero_le _) hkk hst4 ?_ I.cell hM4 ?_ hgm ?_ ?_ ?_
    · intro j2 c hc hkj
      obtain rfl : k = j2 := by omega
      refine kpre_of (I4.cells c (List.mem_of_getElem? hc)) ?_
      cases hX : st1.bind (rdMany rdTag1 j) with
      | none => exact .inl rfl
      | some q =>
        simp only [Option.map_some, Option.bind_some]
        cases hy : rdUv q.2 with
        | none => exact .inl rfl
        | some z =>
          refine .inr fun hl => ?_
          have hz : z.1 = k := hv4 z.1 z.2 (by rw [hX]; exact hy)
          obtain ⟨vs, us, -, -, -, -, -, -, d7⟩ := I4.done q.1 q.2 hX
          exact d7 k c hc (hdup j q.1 q.2 k z.2 c hX (by rw [← hz]; exact hy) hc hl) hl
    · have := I.cnt
      unfold maxLen
      omega
    · intro j2 c hc hkj a6 w6 cs6 sp r x r' k1 k2 k3 k4 k5 k6 k7
      obtain rfl : k = j2 := by omega
      obtain ⟨u1, u2⟩ := kls_known hap hkn I4 hv4 hc k1 k2 hB4 k3 k5 k6 k7 hgm2
      simp only [Exit.then, Exit.inBlock]
      exact hnext a6 w6 cs6 m nn D _ k4 u1 u2 fun a' ha' => by simpa only [Exit.then, Exit.inBlock] using ha'
    · intro j2 c hc hkj a6 w6 k1 k2 k3 k4 k5
      obtain rfl : k = j2 := by omega
      simp only [Exit.then, Exit.inBlock]
      refine hr a6 w6 ?_ k2 (k3.trans (hf15.defers.trans hf1.defers)) k4 ((hk1.mono (by simp)).trans (hk14.trans k5))
      cases hX : st1.bind (rdMany rdTag1 n) with
      | none => rfl
      | some q =>
        simp only [Option.bind_some]
        obtain ⟨r', hp⟩ := many_prefix hX (show j + 1 ≤ n by omega)
        obtain ⟨raw, r0, r1, sp, v1, v2, v3, v4, v5⟩ := many_tag_in hv4 hp
        obtain ⟨vs, us, z1, -⟩ := I4.done raw r0 v1
        have : kfold (ksO ver L) (q.1.take (j + 1)) (L.map (fun c => dfl c.2.2 c.2.1), []) = none := by
          rw [v4, kfold_app, z1]
          simp only [Option.bind_some, kfold]
          unfold kstep
          simp only [ksO_get hc, k1 sp _ v5]
          rfl
        rw [kfold_none this]
        rfl
    · intro hl a6 w5 w6 g v3 k1 k2 k3 k4 k5
      have hl' : L.length ≤ k := by omega
      obtain ⟨u1, u2⟩ := kls_new hap I4 hv4 hl' hkk k1 hB4 k2 k3 k4 hrbO hbO hgm2 (by have := hk14.size; have := k1.size; omega)
      simp only [Exit.then, Exit.inBlock]
      exact hnext a6 w6 _ (some g) _ _ _ k5 u1 u2 fun a' ha' => by simpa only [Exit.then, Exit.inBlock] using ha'
  · have hdec : decide ((0 : Int) < ((n - j : Nat) : Int)) = false := by simp; omega
    rw [hdec] at hx3
    obtain rfl : j = n := by omega
    refine wp_cond_false hx3 (wp_exit ?_)
    simp only [Exit.then, Exit.inBlock, if_true]
    have hfin : ∀ q, st1.bind (rdMany rdTag1 j) = some q → ∃ vs us, kfold (ksO ver L) q.1 (L.map (fun c => dfl c.2.2 c.2.1), []) = some (vs, us) := fun q hq => by
      obtain ⟨vs, us, z1, -⟩ := I.done q.1 q.2 hq
      exact ⟨vs, us, z1⟩
    refine hq a3 w2 cs2 (rst_eq (hr2.shut hrbO hbO) ?_) ((hf1.trans hf2).trans hf3) ((hk1.mono (by simp)).trans I.keeps) I.same ?_
    · cases hX : st1.bind (rdMany rdTag1 j) with
      | none => rfl
      | some q =>
        obtain ⟨vs, us, z1⟩ := hfin q hX
        simp only [Option.bind_some, Option.map_some, z1]
    · intro v r hv'
      cases hX : st1.bind (rdMany rdTag1 j) with
      | none => rw [hX] at hv'; cases hv'
      | some q =>
        obtain ⟨vs, us, z1, z2, z3, z4, z5, z6, z7⟩ := I.done q.1 q.2 hX
        rw [hX] at hv'
        simp only [Option.bind_some, z1, Option.map_some, Option.some.injEq, Prod.mk.injEq] at hv'
        refine ⟨vs, us, hv'.1.symm, z2, fun k c x hc hx => (z3 k c x hc hx).mono tags_mono fun k hk => mO_sub hk, ⟨m, nn, D, ?_, I.map, ?_, view_shut z4, ?_, ?_, z5⟩, by omega⟩
        · rw [hr2.blk.cell]; exact I.cell
        · have := I.cnt; omega
        · intro g hg hgO
          have h1 := I.new g hg
          have h2 := hst1.lt g hgO
          omega
        · omega
end
end Go.Proofs.YtmpilpgabelmiaaGreatDoor
