/- The reference's field that is a part which may be null. -/
import Derived.Test.YtkhpglongkhbjaaSpf
namespace Go.Proofs.Ytkhpglongkhbjaa
open Go Go.RowKit

theorem keep6 {n g : Nat} {w w' : World} {f7 v0 v1 v2 v3 v4 : Value} (hb : Below n w w') (hg : g + 1 < n)
    (h : w.cell? ⟨g, 7, none⟩ = some f7 ∧ w.cell? ⟨g + 1, 0, none⟩ = some v0 ∧ w.cell? ⟨g + 1, 1, none⟩ = some v1 ∧ w.cell? ⟨g + 1, 2, none⟩ = some v2 ∧ w.cell? ⟨g + 1, 3, none⟩ = some v3 ∧ w.cell? ⟨g + 1, 4, none⟩ = some v4) :
    w'.cell? ⟨g, 7, none⟩ = some f7 ∧ w'.cell? ⟨g + 1, 0, none⟩ = some v0 ∧ w'.cell? ⟨g + 1, 1, none⟩ = some v1 ∧ w'.cell? ⟨g + 1, 2, none⟩ = some v2 ∧ w'.cell? ⟨g + 1, 3, none⟩ = some v3 ∧ w'.cell? ⟨g + 1, 4, none⟩ = some v4 := by
  have k0 := fun i => hb.cell (p := ⟨g, i, none⟩) (by show g < n; omega)
  have k1 := fun i => hb.cell (p := ⟨g + 1, i, none⟩) hg
  exact ⟨(k0 7).trans h.1, (k1 0).trans h.2.1, (k1 1).trans h.2.2.1, (k1 2).trans h.2.2.2.1, (k1 3).trans h.2.2.2.2.1, (k1 4).trans h.2.2.2.2.2⟩
set_option maxRecDepth 100000 in
set_option maxHeartbeats 3200000 in
theorem spFieldOpt_null (fr to nu tg df ok : Int) (sub : PFs) (ver : Int) (flex : Bool) (t : Tree) (hnu : 0 ≤ nu) (hn : pNull nu ver t = true) : FieldC 10 fr to nu tg df ok sub ver flex t := by
  intro B base w fv c hB hb hf ht hl
  have e : pField ver flex 10 nu ok (pPart ver flex sub) t = fixed (-1) 1 := by simp [pField, hn, hnu]
  rw [e]
  clear e hl
  have NL := fun w' (hw : B ≤ w'.heap.size) (hr : RepT B w' c t) => spNullT 10 fr to nu tg df ok fv ver t c B w'.heap.size w' (Nat.le_refl _) hr
  rw [hn] at NL
  obtain ⟨sv, lv, uv, rfl, -, ⟨sa, sc, rfl, -⟩, ⟨la, lc, lf, rfl, -⟩, ⟨ua, uc, rfl, -⟩⟩ := ht.parts
  obtain ⟨fa, fcap, rfl, -⟩ := id hf
  have N := Lib.hid NL
  clear NL hn
  have hb1 := fun o => (Below.refl base w).alloc hb o
  have hb2 := fun o o' => (hb1 o).alloc (Nat.le_trans hb (by simp)) o'
  have H := Lib.hid (And.intro hf ht)
  clear hf ht
  have e1 : ∀ o o', ((w.alloc o).alloc o').heap.size = w.heap.size + 2 := by intro o o'; simp
  go_enter Try.func32, Try.ntmps32
  go_wp2_with fail
  refine (N.out _ (by rw [e1]; omega) (H.out.2.keep ((hb2 _ _).mono hB))).mono ?_
  rintro e w3 ⟨rfl, hb3⟩
  obtain ⟨x0, x1, x2, x3, x4, x5, x6, x7⟩ := boxF (((Blk.alloc_new w [.int .i64 10, .int .i64 fr, .int .i64 to, .int .i64 nu, .int .i64 tg, .int .i64 df, .int .i64 ok, .slice fa sub.len fcap] 43).alloc
    (.cells #[.int .i64 t.n, .slice sa t.s.length sc, .bool t.null, .slice la t.l.length lc, .slice ua t.u.length uc] 35)).below hb3 (by rw [e1]; omega))
  have hb4 := (hb2 _ _).trans (hb3.mono (by rw [e1]; omega))
  go_wp2_with fail
  refine (spFixed1 (-1) base w3 (Nat.le_trans hb hb4.size)).mono ?_
  rintro e w4 ⟨v4, rfl, hown, hb5⟩
  have FIN := Lib.hid (And.intro hown (hb4.trans hb5))
  clear hown hb5
  go_wp2
  go_ret
  exact .mk FIN.out.1 FIN.out.2
set_option maxRecDepth 100000 in
set_option maxHeartbeats 3200000 in
theorem spFieldOpt_some (fr to nu tg df ok : Int) (sub : PFs) (ver : Int) (flex : Bool) (t : Tree) (hnu : 0 ≤ nu) (hn : pNull nu ver t = false) (hp : PartC sub ver flex t) : FieldC 10 fr to nu tg df ok sub ver flex t := by
  intro B base w fv c hB hb hf ht hl
  have e : pField ver flex 10 nu ok (pPart ver flex sub) t = fixed 1 1 ++ pPart ver flex sub t := by simp [pField, hn, hnu]
  rw [e] at hl ⊢
  clear e
  have NL := fun w' (hw : B ≤ w'.heap.size) (hr : RepT B w' c t) => spNullT 10 fr to nu tg df ok fv ver t c B w'.heap.size w' (Nat.le_refl _) hr
  rw [hn] at NL
  obtain ⟨sv, lv, uv, rfl, -, ⟨sa, sc, rfl, -⟩, ⟨la, lc, lf, rfl, -⟩, ⟨ua, uc, rfl, -⟩⟩ := ht.parts
  obtain ⟨fa, fcap, rfl, -⟩ := id hf
  have N := Lib.hid NL
  have V := Lib.hid hp
  clear NL hn hp
  have hb1 := fun o => (Below.refl base w).alloc hb o
  have hb2 := fun o o' => (hb1 o).alloc (Nat.le_trans hb (by simp)) o'
  have H := Lib.hid (And.intro hf ht)
  clear hf ht
  have e1 : ∀ o o', ((w.alloc o).alloc o').heap.size = w.heap.size + 2 := by intro o o'; simp
  go_enter Try.func32, Try.ntmps32
  go_wp2_with fail
  refine (N.out _ (by rw [e1]; omega) (H.out.2.keep ((hb2 _ _).mono hB))).mono ?_
  rintro e w3 ⟨rfl, hb3⟩
  obtain ⟨x0, x1, x2, x3, x4, x5, x6, x7⟩ := boxF (((Blk.alloc_new w [.int .i64 10, .int .i64 fr, .int .i64 to, .int .i64 nu, .int .i64 tg, .int .i64 df, .int .i64 ok, .slice fa sub.len fcap] 43).alloc
    (.cells #[.int .i64 t.n, .slice sa t.s.length sc, .bool t.null, .slice la t.l.length lc, .slice ua t.u.length uc] 35)).below hb3 (by rw [e1]; omega))
  obtain ⟨y0, y1, y2, y3, y4⟩ := boxT ((Blk.alloc_new2 w (.cells #[.int .i64 10, .int .i64 fr, .int .i64 to, .int .i64 nu, .int .i64 tg, .int .i64 df, .int .i64 ok, .slice fa sub.len fcap] 43)
    [.int .i64 t.n, .slice sa t.s.length sc, .bool t.null, .slice la t.l.length lc, .slice ua t.u.length uc] 35).below hb3 (by rw [e1]; omega))
  have hb4 := (hb2 _ _).trans (hb3.mono (by rw [e1]; omega))
  have z3 : w.heap.size + 2 ≤ w3.heap.size := by have := hb3.size; rw [e1] at this; exact this
  have c : w3.drew.cell? ⟨w.heap.size, 7, none⟩ = some (.slice fa sub.len fcap) ∧ w3.drew.cell? ⟨w.heap.size + 1, 0, none⟩ = some (.int .i64 t.n) ∧ w3.drew.cell? ⟨w.heap.size + 1, 1, none⟩ = some (.slice sa t.s.length sc) ∧ w3.drew.cell? ⟨w.heap.size + 1, 2, none⟩ = some (.bool t.null) ∧ w3.drew.cell? ⟨w.heap.size + 1, 3, none⟩ = some (.slice la t.l.length lc) ∧ w3.drew.cell? ⟨w.heap.size + 1, 4, none⟩ = some (.slice ua t.u.length uc) := ⟨x7, y0, y1, y2, y3, y4⟩
  have C := Lib.hid (And.intro c hb4.drew)
  have zd : w3.drew.heap.size = w3.heap.size := rfl
  clear c hb4 hb3 y0 y1 y2 y3 y4
  go_wp2_with fail
  go_region_held3 (fun w' => w'.cell? ⟨w.heap.size, 7, none⟩ = some (.slice fa sub.len fcap) ∧ w'.cell? ⟨w.heap.size + 1, 0, none⟩ = some (.int .i64 t.n) ∧ w'.cell? ⟨w.heap.size + 1, 1, none⟩ = some (.slice sa t.s.length sc) ∧ w'.cell? ⟨w.heap.size + 1, 2, none⟩ = some (.bool t.null) ∧ w'.cell? ⟨w.heap.size + 1, 3, none⟩ = some (.slice la t.l.length lc) ∧ w'.cell? ⟨w.heap.size + 1, 4, none⟩ = some (.slice ua t.u.length uc))
    (first | exact C.out.1 | exact hS4 | exact hS5 | exact hS6)
    (first
      | (go_at_call 49; refine (spFixed1 1 w3.drew.heap.size w3.drew (Nat.le_refl _)).mono ?_; rintro e w4 ⟨v4, rfl, hown4, hb4⟩; have z4 := hb4.size; have hS4 := keep6 hb4 (by omega) C.out.1)
      | (go_at_call 16; refine (V.out B w4.heap.size w4 _ _ (by omega) (Nat.le_refl _) (H.out.1.below ((C.out.2.trans (hb4.mono (by omega))).mono hB)) (H.out.2.keep ((C.out.2.trans (hb4.mono (by omega))).mono hB)) (by simp only [List.length_append] at hl; omega)).mono ?_; rintro e w5 ⟨v5, rfl, hown5, hb5⟩; have z5 := hb5.size; have hS5 := keep6 hb5 (by omega) hS4)
      | (refine step_append_from bt rfl (.tmp 59) (.tmp 65) rfl w3.drew.heap.size _ (hown4.stay hb5 (Nat.le_refl _)) (by omega) _ (Src.ofRL (B := w5.heap.size) Try.underlying28 hown5.rl) (by rw [← List.length_append]; exact hl) ?_; intro v6 w6 hown6 hb6; have hS6 := keep6 hb6 (by omega) hS5))
  have zb := C.out.2.size
  have FIN := Lib.hid (And.intro (hown6.mono (show base ≤ w3.drew.heap.size by omega)) (C.out.2.trans (((hb4.mono (by omega)).trans (hb5.mono (by omega))).trans (hb6.mono (by omega)))))
  clear hown4 hown5 hown6 hb4 hb5 hb6 hS4 hS5 hS6
  go_wp2
  go_ret
  exact .mk FIN.out.1 FIN.out.2
end Go.Proofs.Ytkhpglongkhbjaa
