/- What the reference writes of a field, by what it writes of its values: the walks. -/
import Derived.Test.YtkhpglongkhbjaaSpd
namespace Go.Proofs.Ytkhpglongkhbjaa
open Go Go.RowKit

/-- The function writes of this field what pField says. -/
def FieldC (k fr to nu tg df ok : Int) (sub : PFs) (ver : Int) (flex : Bool) (t : Tree) : Prop :=
  ∀ (B base : Nat) (w : World) (fv : Value) (c : List Value), B ≤ base → base ≤ w.heap.size → RepF B w sub fv → RepT B w c t → (pField ver flex k nu ok (pPart ver flex sub) t).length ≤ lim →
    Gives Try.prog 32 #[.agg #[.int .i64 k, .int .i64 fr, .int .i64 to, .int .i64 nu, .int .i64 tg, .int .i64 df, .int .i64 ok, fv], .int .i64 ver, .bool flex, .agg c.toArray] w base (pField ver flex k nu ok (pPart ver flex sub) t)

theorem boxF {w : World} {b T : Nat} {c0 c1 c2 c3 c4 c5 c6 c7 : Value} (h : Blk w b [c0, c1, c2, c3, c4, c5, c6, c7] T) :
    w.cell? ⟨b, 0, none⟩ = some c0 ∧ w.cell? ⟨b, 1, none⟩ = some c1 ∧ w.cell? ⟨b, 2, none⟩ = some c2 ∧ w.cell? ⟨b, 3, none⟩ = some c3 ∧
    w.cell? ⟨b, 4, none⟩ = some c4 ∧ w.cell? ⟨b, 5, none⟩ = some c5 ∧ w.cell? ⟨b, 6, none⟩ = some c6 ∧ w.cell? ⟨b, 7, none⟩ = some c7 :=
  ⟨h.cell_some rfl, h.cell_some rfl, h.cell_some rfl, h.cell_some rfl, h.cell_some rfl, h.cell_some rfl, h.cell_some rfl, h.cell_some rfl⟩
theorem boxT {w : World} {b T : Nat} {c0 c1 c2 c3 c4 : Value} (h : Blk w b [c0, c1, c2, c3, c4] T) :
    w.cell? ⟨b, 0, none⟩ = some c0 ∧ w.cell? ⟨b, 1, none⟩ = some c1 ∧ w.cell? ⟨b, 2, none⟩ = some c2 ∧ w.cell? ⟨b, 3, none⟩ = some c3 ∧ w.cell? ⟨b, 4, none⟩ = some c4 :=
  ⟨h.cell_some rfl, h.cell_some rfl, h.cell_some rfl, h.cell_some rfl, h.cell_some rfl⟩

set_option maxRecDepth 100000 in
set_option maxHeartbeats 1600000 in
theorem spFieldVal (k fr to nu tg df ok : Int) (sub : PFs) (ver : Int) (flex : Bool) (t : Tree) (hk : k ≠ 11) (hn : ¬(k = 10 ∧ 0 ≤ nu)) (hv : ValC k sub (pNull nu ver t) ver flex t) : FieldC k fr to nu tg df ok sub ver flex t := by
  intro B base w fv c hB hb hf ht hl
  have e : pField ver flex k nu ok (pPart ver flex sub) t = pVal flex k (pPart ver flex sub) (pNull nu ver t) t := by simp only [pField, hk, hn, if_false]
  rw [e] at hl ⊢
  clear e
  have NL := fun w' (hw : B ≤ w'.heap.size) (hr : RepT B w' c t) => spNullT k fr to nu tg df ok fv ver t c B w'.heap.size w' (Nat.le_refl _) hr
  obtain ⟨sv, lv, uv, rfl, -, ⟨sa, sc, rfl, -⟩, ⟨la, lc, lf, rfl, -⟩, ⟨ua, uc, rfl, -⟩⟩ := ht.parts
  obtain ⟨fa, fcap, rfl, -⟩ := id hf
  have V := Lib.hid hv
  have N := Lib.hid NL
  clear hv NL
  have hb1 := fun o => (Below.refl base w).alloc hb o
  have hb2 := fun o o' => (hb1 o).alloc (Nat.le_trans hb (by simp)) o'
  have H := Lib.hid (And.intro hf ht)
  clear hf ht
  have e1 : ∀ o o', ((w.alloc o).alloc o').heap.size = w.heap.size + 2 := by intro o o'; simp
  by_cases h10 : k = 10
  · have hnu : ¬ 0 ≤ nu := fun h => hn ⟨h10, h⟩
    subst h10
    clear hn
    go_enter Try.func32, Try.ntmps32
    go_wp2_with fail
    refine (N.out _ (by rw [e1]; omega) (H.out.2.keep ((hb2 _ _).mono hB))).mono ?_
    rintro e w3 ⟨rfl, hb3⟩
    obtain ⟨x0, x1, x2, x3, x4, x5, x6, x7⟩ := boxF (((Blk.alloc_new w [.int .i64 10, .int .i64 fr, .int .i64 to, .int .i64 nu, .int .i64 tg, .int .i64 df, .int .i64 ok, .slice fa sub.len fcap] 43).alloc
      (.cells #[.int .i64 t.n, .slice sa t.s.length sc, .bool t.null, .slice la t.l.length lc, .slice ua t.u.length uc] 35)).below hb3 (by rw [e1]; omega))
    obtain ⟨y0, y1, y2, y3, y4⟩ := boxT ((Blk.alloc_new2 w (.cells #[.int .i64 10, .int .i64 fr, .int .i64 to, .int .i64 nu, .int .i64 tg, .int .i64 df, .int .i64 ok, .slice fa sub.len fcap] 43)
      [.int .i64 t.n, .slice sa t.s.length sc, .bool t.null, .slice la t.l.length lc, .slice ua t.u.length uc] 35).below hb3 (by rw [e1]; omega))
    have hb4 := (hb2 _ _).trans (hb3.mono (by rw [e1]; omega))
    go_wp2_with fail
    refine (V.out B base w3 _ _ hB (Nat.le_trans hb hb4.size) (H.out.1.below (hb4.mono hB)) (H.out.2.keep (hb4.mono hB)) hl).mono ?_
    rintro e w4 ⟨v', rfl, hown, hb5⟩
    go_wp2
    go_ret
    exact .mk hown (hb4.trans hb5)
  · clear hn
    go_enter Try.func32, Try.ntmps32
    go_wp2_with fail
    refine (N.out _ (by rw [e1]; omega) (H.out.2.keep ((hb2 _ _).mono hB))).mono ?_
    rintro e w3 ⟨rfl, hb3⟩
    obtain ⟨x0, x1, x2, x3, x4, x5, x6, x7⟩ := boxF (((Blk.alloc_new w [.int .i64 k, .int .i64 fr, .int .i64 to, .int .i64 nu, .int .i64 tg, .int .i64 df, .int .i64 ok, .slice fa sub.len fcap] 43).alloc
      (.cells #[.int .i64 t.n, .slice sa t.s.length sc, .bool t.null, .slice la t.l.length lc, .slice ua t.u.length uc] 35)).below hb3 (by rw [e1]; omega))
    obtain ⟨y0, y1, y2, y3, y4⟩ := boxT ((Blk.alloc_new2 w (.cells #[.int .i64 k, .int .i64 fr, .int .i64 to, .int .i64 nu, .int .i64 tg, .int .i64 df, .int .i64 ok, .slice fa sub.len fcap] 43)
      [.int .i64 t.n, .slice sa t.s.length sc, .bool t.null, .slice la t.l.length lc, .slice ua t.u.length uc] 35).below hb3 (by rw [e1]; omega))
    have hb4 := (hb2 _ _).trans (hb3.mono (by rw [e1]; omega))
    go_wp2_with fail
    refine (V.out B base w3 _ _ hB (Nat.le_trans hb hb4.size) (H.out.1.below (hb4.mono hB)) (H.out.2.keep (hb4.mono hB)) hl).mono ?_
    rintro e w4 ⟨v', rfl, hown, hb5⟩
    go_wp2
    go_ret
    exact .mk hown (hb4.trans hb5)
end Go.Proofs.Ytkhpglongkhbjaa
