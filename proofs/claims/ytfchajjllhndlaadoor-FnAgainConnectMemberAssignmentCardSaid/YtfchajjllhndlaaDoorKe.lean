/- What is kept: the version stands ahead, in two octets. What the reference writes of it is read and written the same; cut short it is not read. -/
import Derived.Test.YtfchajjllhndlaaDoorMg
import Derived.Test.YtfchajjllhndlaaDoorMe
import Derived.Test.YtfchajjllhndlaaDoorKp
namespace Go.Proofs.YtfchajjllhndlaaDoor
open Go Go.RowKit
set_option linter.unusedVariables false

theorem Mono.rdK (fl : Int → Bool) (sch : Sch) : Mono (rdK fl sch) := (Mono.int 2 32768).bind fun ver => (Mono.rd ver (fl ver) sch).bind fun _ => .pure _
theorem treeRdK {ver : Int} {fl : Int → Bool} {s : Sch} {fs : PFs} (h0 : 0 ≤ ver) (h1 : ver ≤ 32767) (hok : okS ver (fl ver) s = true) (hag : agree ver (fl ver) s false 0 (-1) 0 fs = true) (t : Tree) (ht : TW t) :
    ∃ gv, rdK fl s (fixed ver 2 ++ pPart ver (fl ver) fs t) = some ((ver, gv), []) ∧ be16 ver ++ ap ver (fl ver) s gv = fixed ver 2 ++ pPart ver (fl ver) fs t ∧ ∀ n, n < (fixed ver 2 ++ pPart ver (fl ver) fs t).length → rdK fl s ((fixed ver 2 ++ pPart ver (fl ver) fs t).take n) = none := by
  have e : pPart ver (fl ver) fs t = ap ver (fl ver) s (gvS ver (fl ver) s (-1) fs 0 t) := (gv_ap ver (fl ver) s false 0 (-1) 0 fs hag).2 rfl 0 t
  obtain ⟨v', -, h2, h3⟩ := rd_ap ver (fl ver) s _ hok (gv_wf ver (fl ver) s false 0 (-1) 0 fs hag 0 t ht)
  rw [← e] at h2 h3
  have h4 : Exact (be16 ver ++ pPart ver (fl ver) fs t) (rdK fl s) (ver, v') := Exact.bind (Exact.int2 (by omega) h1) (Exact.bind_pure (f := fun v => (ver, v)) h3)
  have h5 : fixed ver 2 = be16 ver := by simp [fixed]
  rw [h5]
  refine ⟨v', ?_, by rw [h2], fun n hn => cut_none (Mono.rdK fl s) h4 hn⟩
  have := h4 []
  rwa [List.append_nil] at this
/-- What is read of any octets is written as octets that are read again, and written as the same. -/
theorem anyLawK {fl : Int → Bool} {s : Sch} {bs r : List UInt8} {ver : Int} {v : GV} (hok : ∀ ver, -32768 ≤ ver → okS ver (fl ver) s = true) (hb : bs.length ≤ 1000) (h : rdK fl s bs = some ((ver, v), r)) :
    (be16 ver ++ ap ver (fl ver) s v).length ≤ 1000 ∧ ∃ v', rdK fl s (be16 ver ++ ap ver (fl ver) s v) = some ((ver, v'), []) ∧ ap ver (fl ver) s v' = ap ver (fl ver) s v := by
  obtain ⟨n, r', h1, h2⟩ := bind_some h
  obtain ⟨g, r2, h3, h4⟩ := bind_some h2
  obtain ⟨h5, -⟩ := pure_some h4
  cases h5
  obtain ⟨h6, h7, h8⟩ := out_int (by omega) h1
  obtain ⟨h9, h10⟩ := rd_out ver (fl ver) s (hok ver h6) (by unfold M; omega) h3
  obtain ⟨v', -, h11, h12⟩ := rd_ap ver (fl ver) s v (hok ver h6) h9
  refine ⟨by rw [List.length_append, be16_length]; omega, v', ?_, h11⟩
  have h13 : Exact (be16 ver ++ ap ver (fl ver) s v) (rdK fl s) (ver, v') := Exact.bind (Exact.int2 h6 (by omega)) (Exact.bind_pure (f := fun v => (ver, v)) h12)
  have := h13 []
  rwa [List.append_nil] at this
/-- What Again of a kept thing answers. -/
def AgainPostK (fl : Int → Bool) (s : Sch) (bs : List UInt8) (w : World) (e : Ending) (w' : World) : Prop :=
  Below w.heap.size w w' ∧ (rdK fl s bs = none → e = .returned (.tuple #[.slice none 0 0, .bool false])) ∧ ∀ ver v r, rdK fl s bs = some ((ver, v), r) → ∃ x, e = .returned (.tuple #[x, .bool true]) ∧ Own w.heap.size w' x (be16 ver ++ ap ver (fl ver) s v)
theorem rdK_ver {fl : Int → Bool} {s : Sch} {bs r : List UInt8} {ver : Int} {v : GV} (h : rdK fl s bs = some ((ver, v), r)) : -32768 ≤ ver ∧ ver ≤ 32767 ∧ ∃ r', rdInt 2 32768 bs = some (ver, r') := by
  obtain ⟨n, r', h1, h2⟩ := bind_some h
  obtain ⟨g, r2, h3, h4⟩ := bind_some h2
  obtain ⟨h5, -⟩ := pure_some h4
  cases h5
  obtain ⟨h6, h7, -⟩ := out_int (by omega) h1
  exact ⟨h6, by omega, r', h1⟩
theorem repK {RT : RTags} {O : List Nat} {w : World} {ver : Int} {flex : Bool} {s : Sch} {b o off0 : Nat} {gv : GV} (h : Rep RT O w ver flex s b o gv) (hc : w.cell? ⟨b, o + off0, none⟩ = some (.int .i16 ver)) (h0 : -32768 ≤ ver) (h1 : ver ≤ 32767) :
    Rep RT O w ver flex (.cons off0 0 none (.leaf .i16) s) b o (.cons (.int ver) gv) := by
  unfold Rep
  exact ⟨fun _ => by unfold Rep RepLeaf; exact ⟨hc, h0, h1⟩, h⟩
theorem apK {ver : Int} {flex : Bool} {s : Sch} {off0 : Nat} {gv : GV} (h0 : 0 ≤ ver) : ap ver flex (.cons off0 0 none (.leaf .i16) s) (.cons (.int ver) gv) = be16 ver ++ ap ver flex s gv := by
  simp [ap, apLeaf, hasV, h0]

/-- 'var v T; v.Default(); return v'. -/
theorem calls_newK {P : Program} {f : Nat} {fn : Func} {nt FD U n r0 r1 r2 r3 y0 y1 y2 y3 y4 : Nat} {q0 q1 q2 q3 q4 : String} {g0 g1 g2 g3 g4 : Array Edge} {at_ : Array TypeId} {z C : List Value}
    (hf : P.funcs[f]? = some fn)
    (hbody : fn.body = some ((Code.region r0 #[⟨some 0, .alloc U, y0, q0, g0, none⟩] false).seq ((Code.region r1 #[⟨some 1, .alloc U, y1, q1, g1, none⟩] false).seq
      ((Code.region r2 #[⟨some 2, .call { callee := .value (.func FD), args := #[.tmp 1], argTypes := at_ }, y2, q2, g2, none⟩] false).seq
      ((Code.region r3 #[⟨some 3, .load U (.tmp 1), y3, q3, g3, none⟩, ⟨none, .store U (.tmp 0) (.tmp 3), y4, q4, g4, none⟩] false).seq .ret)))))
    (hnt : fn.ntmps = nt) (hnt4 : 4 ≤ nt) (hres : fn.results = #[.cell 0 U]) (he : Enters P FD) (hU : ManyCells P U n)
    (hz : ∀ w, (Instr.alloc U true (.tuple #[])).run P w = .ok (.pointer (some ⟨w.heap.size, 0, none⟩)) (w.alloc (.cells z.toArray U))) (hzn : z.length = n) (hC : C.length = n) (h1 : ∀ v ∈ C, v.oneCell' = true)
    (hDef : ∀ (w : World) (b : Nat), Blk w b z U → Calls P FD #[.pointer (some ⟨b, 0, none⟩)] w fun en w' => en = .returned (.tuple #[]) ∧ Blk w' b C U ∧ Keeps [b] w w') (w : World) :
    Calls P f #[] w fun e w' => e = .returned (.agg C.toArray) ∧ Below w.heap.size w w' := by
  refine calls_of_wp hf hbody ?_
  rw [hnt]
  generalize hA : ({ tmps := #[] ++ Array.replicate (nt - (#[] : Array Value).size) undef, defers := [] } : Act) = A
  have hAs : A.tmps.size = nt := by rw [← hA]; simp
  have hAd : A.defers = [] := by rw [← hA]
  clear hA
  refine wp_seq (wp_reg ?_)
  refine wl_value (v := .pointer (some ⟨w.heap.size, 0, none⟩)) (w' := w.alloc (.cells z.toArray U)) rfl (by simp [execOp, hz]) ?_
  refine wpList_nil ?_
  simp only [Exit.then]
  refine wp_seq (wp_reg ?_)
  refine wl_value (v := .pointer (some ⟨(w.alloc (.cells z.toArray U)).heap.size, 0, none⟩)) (w' := (w.alloc (.cells z.toArray U)).alloc (.cells z.toArray U)) rfl (by simp [execOp, hz]) ?_
  refine wpList_nil ?_
  simp only [Exit.then]
  have hs1 : (w.alloc (.cells z.toArray U)).heap.size = w.heap.size + 1 := by simp
  have hb1 := Blk.alloc_new (w.alloc (.cells z.toArray U)) z U
  have hb0 := (Blk.alloc_new w z U).alloc (.cells z.toArray U)
  have hbel := ((Below.refl w.heap.size w).alloc (Nat.le_refl _) (.cells z.toArray U)).alloc (by simp) (.cells z.toArray U)
  rw [hs1] at hb1
  rw [hs1]
  generalize (w.alloc (.cells z.toArray U)).alloc (.cells z.toArray U) = w2 at *
  have a1 : aget ((A.put (some 0) (.pointer (some ⟨w.heap.size, 0, none⟩))).put (some 1) (.pointer (some ⟨w.heap.size + 1, 0, none⟩))) 1 = .pointer (some ⟨w.heap.size + 1, 0, none⟩) := aget_put_same _ _ _ (by simp only [size_put]; omega)
  have a0 : aget ((A.put (some 0) (.pointer (some ⟨w.heap.size, 0, none⟩))).put (some 1) (.pointer (some ⟨w.heap.size + 1, 0, none⟩))) 0 = .pointer (some ⟨w.heap.size, 0, none⟩) := by
    rw [aget_put_other _ _ _ _ (by omega)]; exact aget_put_same _ _ _ (by omega)
  have hAz : ((A.put (some 0) (.pointer (some ⟨w.heap.size, 0, none⟩))).put (some 1) (.pointer (some ⟨w.heap.size + 1, 0, none⟩))).tmps.size = nt := by simp only [size_put, hAs]
  have ad : ((A.put (some 0) (.pointer (some ⟨w.heap.size, 0, none⟩))).put (some 1) (.pointer (some ⟨w.heap.size + 1, 0, none⟩))).defers = [] := by simp only [defers_put, hAd]
  generalize (A.put (some 0) (.pointer (some ⟨w.heap.size, 0, none⟩))).put (some 1) (.pointer (some ⟨w.heap.size + 1, 0, none⟩)) = A2 at *
  refine wp_seq (wp_reg ?_)
  refine wl_call (R := fun en w' => en = .returned (.tuple #[]) ∧ Blk w' (w.heap.size + 1) C U ∧ Keeps [w.heap.size + 1] w2 w') he ?_ ?_
  · simp only [List.map_toArray, List.map_cons, List.map_nil, aget_eval]
    rw [a1]
    exact hDef w2 _ hb1
  rintro en w3 ⟨rfl, hb3, hk3⟩
  refine ⟨_, rfl, wpList_nil ?_⟩
  simp only [Exit.then]
  have h03 := hb0.keeps hk3 (by simp)
  refine wp_seq (wp_reg ?_)
  refine wl_value (v := .agg C.toArray) (w' := w3) rfl ?_ ?_
  · have e1 : aget (A2.put (some 2) (.tuple #[])) 1 = .pointer (some ⟨w.heap.size + 1, 0, none⟩) := by rw [aget_put_other _ _ _ _ (by omega)]; exact a1
    have e2 := run_load_many (P := P) hU (w := w3) (ad := ⟨w.heap.size + 1, 0, none⟩) hC (fun j v hj => by rw [Addr.add_lit, Nat.zero_add, hb3.cell]; exact hj)
    simp [execOp, aget_eval, e1, e2]
  refine wl_store (w' := w3.setRow w.heap.size C.toArray) ?_ ?_
  · rw [aget_eval, aget_eval, aget_put_other _ _ _ 0 (by omega), aget_put_other _ _ _ 0 (by omega), a0, aget_put_same _ _ _ (by simp only [size_put]; omega)]
    exact run_store_many (P := P) hU (cur := z.toArray) h03 (by simpa using hzn) hC h1
  refine wpList_nil ?_
  simp only [Exit.then]
  have hr4 : Blk (w3.setRow w.heap.size C.toArray) w.heap.size C U := setRow_heap _ _ _ _ _ _ h03
  refine wp_ret (bodyPost_ret (v := .agg C.toArray) (results_cellN (ad := ⟨w.heap.size, 0, none⟩) hres ?_ hU hC (fun j v hj => by rw [Addr.add_lit, Nat.zero_add, hr4.cell]; exact hj)) (by simp only [defers_put, ad]) ⟨rfl, ?_⟩)
  · have : aget ((A2.put (some 2) (.tuple #[])).put (some 3) (.agg C.toArray)) 0 = .pointer (some ⟨w.heap.size, 0, none⟩) := by
      rw [aget_put_other _ _ _ _ (by omega), aget_put_other _ _ _ _ (by omega)]; exact a0
    exact this
  · exact below_setRow (hbel.trans (hk3.below (by have := hb1.lt; omega) (by simp))) (Nat.le_refl _) _

theorem keepK {n g : Nat} {w w' : World} {m0 m1 v0 v1 v2 v3 v4 : Value} (hb : Below n w w') (hg : g + 1 < n)
    (h : w.cell? ⟨g, 0, none⟩ = some m0 ∧ w.cell? ⟨g, 1, none⟩ = some m1 ∧ w.cell? ⟨g + 1, 0, none⟩ = some v0 ∧ w.cell? ⟨g + 1, 1, none⟩ = some v1 ∧ w.cell? ⟨g + 1, 2, none⟩ = some v2 ∧ w.cell? ⟨g + 1, 3, none⟩ = some v3 ∧ w.cell? ⟨g + 1, 4, none⟩ = some v4) :
    w'.cell? ⟨g, 0, none⟩ = some m0 ∧ w'.cell? ⟨g, 1, none⟩ = some m1 ∧ w'.cell? ⟨g + 1, 0, none⟩ = some v0 ∧ w'.cell? ⟨g + 1, 1, none⟩ = some v1 ∧ w'.cell? ⟨g + 1, 2, none⟩ = some v2 ∧ w'.cell? ⟨g + 1, 3, none⟩ = some v3 ∧ w'.cell? ⟨g + 1, 4, none⟩ = some v4 := by
  have k0 := fun i => hb.cell (p := ⟨g, i, none⟩) (by show g < n; omega)
  have k1 := fun i => hb.cell (p := ⟨g + 1, i, none⟩) hg
  exact ⟨(k0 0).trans h.1, (k0 1).trans h.2.1, (k1 0).trans h.2.2.1, (k1 1).trans h.2.2.2.1, (k1 2).trans h.2.2.2.2.1, (k1 3).trans h.2.2.2.2.2.1, (k1 4).trans h.2.2.2.2.2.2⟩
set_option maxRecDepth 100000 in
set_option maxHeartbeats 3200000 in
theorem spKept (fs : PFs) (htag : fs.noTag) (hopt : fs.noOpt) (ver fl : Int) (t : Tree) (flex : Bool) (hfl : flex = (decide (0 ≤ fl) && decide (fl ≤ ver))) (B base : Nat) (w : World) (fv : Value) (c : List Value) (hB : B ≤ base) (hb : base ≤ w.heap.size)
    (hf : RepF B w fs fv) (ht : RepT B w c t) (hl : (fixed ver 2 ++ pPart ver flex fs t).length ≤ lim) :
    Gives Tryd.prog 16 #[.agg #[fv, .int .i64 fl], .int .i64 ver, .agg c.toArray] w base (fixed ver 2 ++ pPart ver flex fs t) := by
  obtain ⟨sv, lv, uv, rfl, -, ⟨sa, sc, rfl, -⟩, ⟨la, lc, lf, rfl, -⟩, ⟨ua, uc, rfl, -⟩⟩ := ht.parts
  obtain ⟨fa, fcap, rfl, -⟩ := id hf
  have hM := (Blk.alloc_new w [.slice fa fs.len fcap, .int .i64 fl] 33).alloc (.cells #[.int .i64 t.n, .slice sa t.s.length sc, .bool t.null, .slice la t.l.length lc, .slice ua t.u.length uc] 26)
  have hT := Blk.alloc_new (w.alloc (.cells #[.slice fa fs.len fcap, .int .i64 fl] 33)) [.int .i64 t.n, .slice sa t.s.length sc, .bool t.null, .slice la t.l.length lc, .slice ua t.u.length uc] 26
  have hs1 : (w.alloc (.cells #[.slice fa fs.len fcap, .int .i64 fl] 33)).heap.size = w.heap.size + 1 := by simp
  have hb2 := ((Below.refl base w).alloc hb (.cells #[.slice fa fs.len fcap, .int .i64 fl] 33)).alloc (Nat.le_trans hb (by simp)) (.cells #[.int .i64 t.n, .slice sa t.s.length sc, .bool t.null, .slice la t.l.length lc, .slice ua t.u.length uc] 26)
  rw [hs1] at hT
  obtain ⟨W0, hW⟩ : ∃ W0, ((w.alloc (.cells #[.slice fa fs.len fcap, .int .i64 fl] 33)).alloc (.cells #[.int .i64 t.n, .slice sa t.s.length sc, .bool t.null, .slice la t.l.length lc, .slice ua t.u.length uc] 26)) = W0 := ⟨_, rfl⟩
  have hsW : W0.drew.heap.size = w.heap.size + 2 := by rw [← hW]; simp
  have c : W0.drew.cell? ⟨w.heap.size, 0, none⟩ = some (.slice fa fs.len fcap) ∧ W0.drew.cell? ⟨w.heap.size, 1, none⟩ = some (.int .i64 fl) ∧ W0.drew.cell? ⟨w.heap.size + 1, 0, none⟩ = some (.int .i64 t.n) ∧ W0.drew.cell? ⟨w.heap.size + 1, 1, none⟩ = some (.slice sa t.s.length sc) ∧ W0.drew.cell? ⟨w.heap.size + 1, 2, none⟩ = some (.bool t.null) ∧ W0.drew.cell? ⟨w.heap.size + 1, 3, none⟩ = some (.slice la t.l.length lc) ∧ W0.drew.cell? ⟨w.heap.size + 1, 4, none⟩ = some (.slice ua t.u.length uc) := by
    rw [← hW]
    exact ⟨hM.drew.cell_some (i := 0) rfl, hM.drew.cell_some (i := 1) rfl, hT.drew.cell_some (i := 0) rfl, hT.drew.cell_some (i := 1) rfl, hT.drew.cell_some (i := 2) rfl, hT.drew.cell_some (i := 3) rfl, hT.drew.cell_some (i := 4) rfl⟩
  have hbW : Below base w W0.drew := by rw [← hW]; exact hb2.drew
  have H := Lib.hid (And.intro (hf.below (hbW.mono hB)) (And.intro (ht.keep (hbW.mono hB)) (And.intro hbW c)))
  clear hM hT hb2 hbW hf ht c hs1
  go_enter Tryd.func16, Tryd.ntmps16
  go_wp2_with fail
  go_region_held3 (fun w' => w'.cell? ⟨w.heap.size, 0, none⟩ = some (.slice fa fs.len fcap) ∧ w'.cell? ⟨w.heap.size, 1, none⟩ = some (.int .i64 fl) ∧ w'.cell? ⟨w.heap.size + 1, 0, none⟩ = some (.int .i64 t.n) ∧ w'.cell? ⟨w.heap.size + 1, 1, none⟩ = some (.slice sa t.s.length sc) ∧ w'.cell? ⟨w.heap.size + 1, 2, none⟩ = some (.bool t.null) ∧ w'.cell? ⟨w.heap.size + 1, 3, none⟩ = some (.slice la t.l.length lc) ∧ w'.cell? ⟨w.heap.size + 1, 4, none⟩ = some (.slice ua t.u.length uc))
    (first | exact H.out.2.2.2 | exact hS3 | exact hS4 | exact hS5)
    (first
      | (go_at_call 35; refine (spFixed2 ver W0.drew.heap.size W0.drew (Nat.le_refl _)).mono ?_; rintro e w3 ⟨v3, rfl, hown3, hb3⟩; have z3 := hb3.size; have hS3 := keepK hb3 (by omega) H.out.2.2.2)
      | (go_at_call 9; refine (spWrite fs htag hopt ver fl t flex hfl B w3.heap.size w3 _ _ (by omega) (Nat.le_refl _) (H.out.1.below (hb3.mono (by omega))) (H.out.2.1.keep (hb3.mono (by omega))) (by simp only [List.length_append] at hl; omega)).mono ?_; rintro e w4 ⟨v4, rfl, hown4, hb4⟩; have z4 := hb4.size; have hS4 := keepK hb4 (by omega) hS3)
      | (refine step_append_from bt rfl (.tmp 8) (.tmp 12) rfl W0.drew.heap.size _ (hown3.stay hb4 (Nat.le_refl _)) (by omega) _ (Src.ofRL (B := w4.heap.size) Tryd.underlying22 (hown4.rl)) (by rw [← List.length_append]; exact hl) ?_; intro v5 w5 hown5 hb5; have hS5 := keepK hb5 (by omega) hS4))
  have FIN := Lib.hid (And.intro hown5 (H.out.2.2.1.trans (((hb3.mono (by omega)).trans (hb4.mono (by omega))).trans (hb5.mono (by omega)))))
  clear hown3 hb3 hown4 hb4 hown5 hb5 hS3 hS4
  go_wp2
  go_ret
  exact .mk (FIN.out.1.mono (by omega)) FIN.out.2
end Go.Proofs.YtfchajjllhndlaaDoor
