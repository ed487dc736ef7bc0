/- The reader's Uuid. -/
import Derived.Test.YtellhjpdpaeieaaDoorRt
namespace Go.Proofs.YtellhjpdpaeieaaDoor
open Go Go.RowKit
set_option linter.unusedVariables false
abbrev z16 : List Value := List.replicate 16 (.int .u8 0)
theorem spanVal {O : List Nat} {rb : Nat} {w : World} {st : Option (List UInt8)} {e : Ending} {w' : World} (h : RdPost (rdSpan 16) (fun O w v s => RB O w v s) (fun v => v = .slice none 0 0) O rb w st e w') :
    ∃ (sp : Option Addr) (n cap : Nat) (cs : List Value), e = .returned (.slice sp n cap) ∧ cs.length = Nat.min n 16 ∧ (0 < cs.length → ∃ ad, sp = some ad ∧ ∀ j v, cs[j]? = some v → w'.cell? (ad.add j) = some v) ∧ cs.length ≤ 16 ∧ (∀ v ∈ cs, v.oneCell' = true) ∧
      (∃ l : List UInt8, l.length = 16 ∧ splice z16 0 cs = l.map byteV ∧ ∀ s r, st.bind (rdTake 16) = some (s, r) → s = l) ∧ Rdr O w' rb ((st.bind (rdTake 16)).map (·.2)) ∧ Keeps [rb] w w' := by
  obtain ⟨v, rfl, h1, h2, h3, h4⟩ := h
  rw [span16] at h1 h3 h4
  cases hx : st.bind (rdTake 16) with
  | none =>
    obtain rfl := h3 hx
    refine ⟨none, 0, 0, [], rfl, rfl, fun h => absurd h (by simp), by simp, by simp, ⟨List.replicate 16 0, by simp, ?_, fun s r h => by cases h⟩, by rw [hx] at h1; exact h1, h2⟩
    rfl
  | some q =>
    have hl : q.1.length = 16 := by
      cases st with
      | none => cases hx
      | some bs => exact take_len (r := q.2) hx
    obtain ⟨a, cap, rfl, -, -, hc⟩ := h4 q.1 q.2 hx
    refine ⟨a, q.1.length, cap, q.1.map byteV, rfl, by rw [List.length_map, hl]; rfl, fun _ => ?_, by rw [List.length_map, hl]; exact Nat.le_refl _, bytes_one _, ⟨q.1, hl, ?_, fun s r h => by cases h; rfl⟩, by rw [hx] at h1; exact h1, h2⟩
    · obtain ⟨b, o, rfl, -, hcell⟩ := hc (by intro h; rw [h] at hl; cases hl)
      refine ⟨_, rfl, fun j v hj => ?_⟩
      rw [List.getElem?_map] at hj
      cases hq : q.1[j]? with
      | none => rw [hq] at hj; cases hj
      | some u => rw [hq] at hj; cases hj; rw [Addr.add_lit]; exact hcell j u hq
    · unfold splice
      rw [List.length_map, hl]
      simp
/-- 'copy' into a block: all else stays. -/
theorem step_copy_keep {P : Program} {ops : Array Oper} {o : Oper} {a : Act} {w : World} {K : Act → World → Prop} {Q : Exit → Act → World → Prop} {E : Prop} (hgd : o.guard = none) (d s : Operand) (dT sT : TypeId)
    (ho : o.op = .call { callee := .builtin .copy, args := #[d, s], argTypes := #[dT, sT] }) (elem : TypeId) (hu : P.underlying dT = some (.slice elem)) (hsz : (P.info? elem).map (·.size) = some 1)
    (dp sp : Option Addr) (dLen dCap sLen sCap : Nat) (hd : a.eval d = .slice dp dLen dCap) (hs : a.eval s = .slice sp sLen sCap)
    (g : Nat) (cur : List Value) (t : TypeId) (hg : w.heap[g]? = some (.cells cur.toArray t (0, 0))) (cs : List Value) (hn : cs.length = Nat.min sLen dLen)
    (hpos : 0 < cs.length → dp = some ⟨g, 0, none⟩ ∧ ∃ ad, sp = some ad ∧ ∀ j v, cs[j]? = some v → w.cell? (ad.add j) = some v)
    (hfit : cs.length ≤ cur.length) (h1 : ∀ v ∈ cs, v.oneCell' = true)
    (h : ∀ w', RowKit.Hid (w'.heap[g]? = some (.cells (splice cur 0 cs).toArray t (0, 0))) → Keeps [g] w w' → K (a.put o.dst (goInt cs.length)) w') :
    if Region.wanted o (yielded ops a.tmps) = true then Oper.wp P o a w K Q else E := by
  have hw : Region.wanted o (yielded ops a.tmps) = true := by simp [Region.wanted, hgd]
  rw [if_pos hw]
  by_cases h0 : cs.length = 0
  · obtain rfl : cs = [] := List.eq_nil_of_length_eq_zero h0
    have hrun := run_copy_none (P := P) w dT sT o.type elem dp sp dLen dCap sLen sCap hu hsz (by simpa using hn.symm)
    unfold Oper.wp
    simp [execOp, ho, resolve, invoke, builtin, hd, hs, hrun, Result.andThen]
    exact h w (show _ = _ by simpa [splice] using hg) (Keeps.refl _ _)
  · obtain ⟨rfl, ad, rfl, hsrc⟩ := hpos (by omega)
    have hrun := run_copy_row (P := P) w dT sT o.type elem g 0 dLen dCap ad sLen sCap cur.toArray t cs hu hsz hg hn hsrc (by simpa using hfit) h1
    unfold Oper.wp
    simp [execOp, ho, resolve, invoke, builtin, hd, hs, hrun, Result.andThen]
    exact h _ (show _ = _ by simpa [splice] using setRow_heap w g _ _ t _ hg) (Keeps.setRow (Keeps.refl _ _) (.inl (by simp)) _)
theorem results_cellN {fn : Func} {t U n : Nat} {P : Program} {w : World} {ad : Addr} {l : List Value} {tmps : Array Value} (h : fn.results = #[.cell t U]) (ht : tmps.getD t undef = .pointer (some ad)) (hU : ManyCells P U n) (hl : l.length = n) (hc : ∀ j v, l[j]? = some v → w.cell? (ad.add j) = some v) :
    (results fn tmps).run P w = .ok (.agg l.toArray) w := by
  have h1 := run_load_many (P := P) hU (w := w) (ad := ad) hl hc
  have h2 : (loadVar U ad).run P w = .ok (.agg l.toArray) w := by simpa [Instr.loadAt, Instr.sureAddr] using h1
  have h3 : tmps[t]?.getD undef = .pointer (some ad) := by simpa using ht
  simp [results, h, h3, asAddr, h2]
set_option maxRecDepth 100000 in
set_option maxHeartbeats 2000000 in
theorem rUuid : UuidRd Tryd.prog 97 := by
  intro O rb w st hO hlt h
  have hb2 : Blk ((w.alloc (.cells z16.toArray 71)).alloc (.cells z16.toArray 71)) w.heap.size z16 71 := by
    have h0 : Blk (w.alloc (.cells z16.toArray 71)) w.heap.size z16 71 := heap_alloc_new w _
    exact h0.keeps ((Keeps.refl [] _).alloc _) (by simp)
  have hb3 : Blk ((w.alloc (.cells z16.toArray 71)).alloc (.cells z16.toArray 71)) (w.heap.size + 1) z16 71 := by
    have h0 : Blk ((w.alloc (.cells z16.toArray 71)).alloc (.cells z16.toArray 71)) (w.alloc (.cells z16.toArray 71)).heap.size z16 71 := heap_alloc_new _ _
    simpa using h0
  have hk2 : Keeps [] w ((w.alloc (.cells z16.toArray 71)).alloc (.cells z16.toArray 71)).drew := (((Keeps.refl [] w).alloc _).alloc _).drew
  have C := Lib.hid (rSpan ((w.heap.size + 1) :: w.heap.size :: O) rb ((w.alloc (.cells z16.toArray 71)).alloc (.cells z16.toArray 71)).drew st 16 (by simp [hO]) (by intro k hk; simp only [List.mem_cons] at hk; rcases hk with rfl | rfl | hk; exact hb3.lt; exact hb2.lt; exact Nat.lt_of_lt_of_le (hlt k hk) hk2.size) (((h.open (Nat.le_refl _)).open (Nat.le_succ _)).other hk2 (by simp) (by simp)))
  have H := Lib.hid (And.intro hO (And.intro hlt (And.intro h (And.intro hb2 (And.intro hb3 hk2)))))
  have hz := hb3
  unfold Blk at hz
  clear hO hlt h hb2 hb3 hk2
  go_enter Tryd.func97, Tryd.ntmps97
  go_wp2_with fail
  go_region_held3 (fun w' => ∃ c : Array Value, w'.heap[w.heap.size + 1]? = some (.cells c 71 (0, 0))) (first | exact ⟨_, hg4.out⟩ | exact ⟨_, hS3⟩ | exact ⟨_, hz⟩)
    (first
      | (go_at_call 116; refine C.out.mono ?_; intro e w1 hp; obtain ⟨sp, n, cap, cs, rfl, hn, hpos, hc16, hone, hl, hr1, hk1⟩ := spanVal hp; have hS3 : w1.heap[w.heap.size + 1]? = some (.cells z16.toArray 71 (0, 0)) := (hk1.block _ (Blk.lt H.out.2.2.2.2.1) (by have := H.out.2.1 rb H.out.1; rw [List.mem_singleton]; omega)).trans H.out.2.2.2.2.1)
      | (refine step_copy_keep rfl (.tmp 4) (.tmp 6) 22 22 rfl 5 Tryd.underlying22 (by kernel_rfl) _ _ _ _ _ _ rfl rfl (w.heap.size + 1) z16 71 hS3 cs hn (fun h => ⟨rfl, hpos h⟩) (by simpa using hc16) hone ?_; intro w4 hg4 hb4))
  obtain ⟨l, hl16, hsp, hlu⟩ := hl
  have hmc : ManyCells Tryd.prog 71 16 := ⟨fun w => Tryd.isAgg71 w, ⟨Tryd.t71, _, by kernel_rfl, rfl, rfl, rfl⟩⟩
  have hb3 : Blk w4 (w.heap.size + 1) (l.map byteV) 71 := by have h := hg4.out; rw [hsp] at h; exact h
  have hb2 : Blk w4 w.heap.size z16 71 := (hb4.block _ (Nat.lt_of_lt_of_le (Blk.lt H.out.2.2.2.1) hk1.size) (by simp)).trans ((hk1.block _ (Blk.lt H.out.2.2.2.1) (by have := H.out.2.1 rb H.out.1; rw [List.mem_singleton]; omega)).trans H.out.2.2.2.1)
  have hll : (l.map byteV).length = 16 := by simpa using hl16
  have hload : (Instr.loadAt 71 (.pointer (some ⟨w.heap.size + 1, 0, none⟩))).run Tryd.prog w4 = .ok (.agg (l.map byteV).toArray) w4 := run_load_many hmc hll (fun j v hj => by rw [Addr.add_lit, Nat.zero_add, hb3.cell]; exact hj)
  have hstore : (Instr.storeAt 71 (.pointer (some ⟨w.heap.size, 0, none⟩)) (.agg (l.map byteV).toArray)).run Tryd.prog w4 = .ok () (w4.setRow w.heap.size (l.map byteV).toArray) := run_store_many hmc hb2 rfl hll (bytes_one l)
  have Y := Lib.hid (And.intro hb2 (And.intro hb4 (And.intro hr1 (And.intro hk1 (And.intro hlu hl16)))))
  have HM := Lib.hid hmc
  clear hb2 hb3 hb4 hr1 hk1 hlu hl16 hsp hg4 hS3 hpos hone hc16 hn hz C hmc
  simp only [Exit.then]
  apply ‹∀ (a : Act) (w_1 : World), Code.wp _ _ _ a w_1 → _›
  refine wp_seq (wp_reg ?_)
  refine wl_value (v := .agg (l.map byteV).toArray) (w' := w4) rfl ?_ ?_
  · simp only [execOp]
    have e : ∀ A : Act, A.eval (.tmp 3) = .pointer (some ⟨w.heap.size + 1, 0, none⟩) → (execOp A.eval ⟨some 8, .load 71 (.tmp 3), 71, "", #[], none⟩).run Tryd.prog w4 = .ok (.value (.agg (l.map byteV).toArray)) w4 := fun A hA => by simp [execOp, hA, hload]
    exact e _ rfl
  refine wl_store (w' := w4.setRow w.heap.size (l.map byteV).toArray) hstore ?_
  refine wpList_nil (wp_ret ?_)
  have hr4 : Blk (w4.setRow w.heap.size (l.map byteV).toArray) w.heap.size (l.map byteV) 71 := setRow_heap _ _ _ _ _ _ Y.out.1
  refine bodyPost_ret (v := .agg (l.map byteV).toArray) (results_cellN (ad := ⟨w.heap.size, 0, none⟩) rfl rfl HM.out hll (fun j v hj => by rw [Addr.add_lit, Nat.zero_add, hr4.cell]; exact hj)) rfl ?_
  have hrb := H.out.2.1 rb H.out.1
  have kk : Keeps [w.heap.size + 1, w.heap.size] w1 (w4.setRow w.heap.size (l.map byteV).toArray) := Keeps.setRow (Y.out.2.1.mono (by simp)) (.inl (by simp)) _
  have kw : Keeps [w.heap.size + 1, w.heap.size, rb] w (w4.setRow w.heap.size (l.map byteV).toArray) := (((H.out.2.2.2.2.2.mono (O' := [rb]) (by simp)).trans Y.out.2.2.2.1).mono (O' := [w.heap.size + 1, w.heap.size, rb]) (by simp)).trans (kk.mono (by simp))
  refine ⟨_, rfl, ?_, ((kw.close (Nat.le_succ _)).close (Nat.le_refl _)), fun _ => ⟨l, Y.out.2.2.2.2.2, rfl⟩, fun x r hx => ?_⟩
  · exact (Y.out.2.2.1.other kk (by simp; omega) (by simp)).mono (by simp; exact fun k hk => .inr (.inr hk))
  · rw [Y.out.2.2.2.2.1 x r hx]
end Go.Proofs.YtellhjpdpaeieaaDoor
