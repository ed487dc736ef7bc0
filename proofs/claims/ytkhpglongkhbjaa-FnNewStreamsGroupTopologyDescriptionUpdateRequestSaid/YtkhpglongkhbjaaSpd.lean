/- What the reference writes of a field, by what it writes of its values. -/
import Derived.Test.YtkhpglongkhbjaaSpc
namespace Go.Proofs.Ytkhpglongkhbjaa
open Go Go.RowKit

/-- What is asked of the part behind fields: it writes what pPart says. -/
def PartC (fs : PFs) (ver : Int) (flex : Bool) (t : Tree) : Prop :=
  ∀ (B base : Nat) (w : World) (fv : Value) (c : List Value), B ≤ base → base ≤ w.heap.size → RepF B w fs fv → RepT B w c t → (pPart ver flex fs t).length ≤ lim →
    Gives Try.prog 16 #[fv, .int .i64 ver, .bool flex, .agg c.toArray] w base (pPart ver flex fs t)
/-- The same of a value of a kind. -/
def ValC (k : Int) (sub : PFs) (null : Bool) (ver : Int) (flex : Bool) (t : Tree) : Prop :=
  ∀ (B base : Nat) (w : World) (fv : Value) (c : List Value), B ≤ base → base ≤ w.heap.size → RepF B w sub fv → RepT B w c t → (pVal flex k (pPart ver flex sub) null t).length ≤ lim →
    Gives Try.prog 48 #[.int .i64 k, fv, .bool null, .int .i64 ver, .bool flex, .agg c.toArray] w base (pVal flex k (pPart ver flex sub) null t)

set_option maxRecDepth 100000 in
set_option maxHeartbeats 800000 in
theorem spValueStruct (sub : PFs) (null : Bool) (ver : Int) (flex : Bool) (t : Tree) (hp : PartC sub ver flex t) : ValC 10 sub null ver flex t := by
  intro B base w fv c hB hb hf ht hl
  obtain ⟨sv, lv, uv, rfl, -, ⟨sa, sc, rfl, -⟩, ⟨la, lc, lf, rfl, -⟩, ⟨ua, uc, rfl, -⟩⟩ := ht.parts
  have hp1 := Lib.hid hp
  have hbel := (Below.refl base w).alloc hb (.cells #[.int .i64 t.n, .slice sa t.s.length sc, .bool t.null, .slice la t.l.length lc, .slice ua t.u.length uc] 35)
  have H := Lib.hid (And.intro hf ht)
  clear hp hf ht
  show Gives _ _ _ _ _ (pPart ver flex sub t)
  change (pPart ver flex sub t).length ≤ lim at hl
  go_enter Try.func48, Try.ntmps48
  go_wp2_with fail
  refine (hp1.out B base _ _ _ hB (Nat.le_trans hb hbel.size) (H.out.1.below (hbel.mono hB)) (H.out.2.keep (hbel.mono hB)) hl).mono ?_
  rintro e w' ⟨v', rfl, hown, hb2⟩
  go_wp2
  go_ret
  exact .mk hown (hbel.trans hb2)

theorem spValue (k : Int) (sub : PFs) (null : Bool) (ver : Int) (flex : Bool) (t : Tree) (hp : k = 10 → PartC sub ver flex t) : ValC k sub null ver flex t := by
  by_cases h10 : k = 10
  · subst h10
    exact spValueStruct sub null ver flex t (hp rfl)
  intro B base w fv c hB hb hf ht hl
  obtain ⟨sv, lv, uv, rfl, -, hs, -⟩ := ht.parts
  by_cases h0 : k = 0
  · subst h0
    exact spValueBool fv null ver flex t.n sv lv uv t.null base w hb
  by_cases h7 : k = 7
  · subst h7
    exact spValueUuid fv null ver flex t.n t.s sv lv uv t.null base B w hB hb hs
  by_cases h8 : k = 8
  · subst h8
    cases null
    · exact spValueText_false fv ver flex t.n t.s sv lv uv t.null base B w hB hb hs
    · exact spValueText_true fv ver flex t.n t.s sv lv uv t.null base B w hB hb hs
  by_cases h9 : k = 9
  · subst h9
    cases null
    · exact spValueBytes_false fv ver flex t.n t.s sv lv uv t.null base B w hB hb hs
    · exact spValueBytes_true fv ver flex t.n t.s sv lv uv t.null base B w hB hb hs
  have e : pVal flex k (pPart ver flex sub) null t = fixed t.n (pWidth k) := by simp [pVal, h0, h7, h8, h9, h10]
  rw [e]
  exact spValueNum k h0 h7 h8 h9 h10 fv null ver flex t.n sv lv uv t.null base w hb

theorem spNullT (k fr to nu tg df ok : Int) (sv : Value) (ver : Int) (t : Tree) (c : List Value) (B base : Nat) (w : World) (hb : base ≤ w.heap.size) (ht : RepT B w c t) :
    Says Try.prog 45 #[.agg #[.int .i64 k, .int .i64 fr, .int .i64 to, .int .i64 nu, .int .i64 tg, .int .i64 df, .int .i64 ok, sv], .int .i64 ver, .agg c.toArray] w base (.bool (pNull nu ver t)) := by
  obtain ⟨s, l, u, rfl, -⟩ := ht.parts
  exact spNull k fr to nu tg df ok sv ver t.n s t.null l u base w hb

/-- The k-th of the trees behind a slice. -/
theorem RepL.nth {B : Nat} {w : World} {l : List Tree} {a : Option Addr} {n cap : Nat} (h : RepL B w l (.slice a n cap)) {k : Nat} (hk : k < l.length) :
    ∃ p q sa sc la lc ua uc, a = some ⟨p, q, none⟩ ∧ p < B ∧
      RepT B w [.int .i64 (l[k]).n, .slice sa (l[k]).s.length sc, .bool (l[k]).null, .slice la (l[k]).l.length lc, .slice ua (l[k]).u.length uc] (l[k]) ∧
      w.cell? ⟨p, q + k * 5, none⟩ = some (.int .i64 (l[k]).n) ∧ w.cell? ⟨p, q + k * 5 + 1, none⟩ = some (.slice sa (l[k]).s.length sc) ∧ w.cell? ⟨p, q + k * 5 + 2, none⟩ = some (.bool (l[k]).null) ∧
      w.cell? ⟨p, q + k * 5 + 3, none⟩ = some (.slice la (l[k]).l.length lc) ∧ w.cell? ⟨p, q + k * 5 + 4, none⟩ = some (.slice ua (l[k]).u.length uc) := by
  obtain ⟨a', cap', f, hv, h1, h2, h3, h4⟩ := h
  cases hv
  obtain ⟨p, q, rfl, hp, h5⟩ := h3 (by intro e; subst e; simp at hk)
  have hr := h4 k _ (List.getElem?_eq_getElem hk)
  obtain ⟨sv, lv, uv, hc, -, ⟨sa, sc, rfl, -⟩, ⟨la, lc, lf, rfl, -⟩, ⟨ua, uc, rfl, -⟩⟩ := hr.parts
  have h6 := (h5 k hk).2
  rw [hc] at h6 hr
  rw [Nat.mul_comm 5 k] at h6
  exact ⟨p, q, sa, sc, la, lc, ua, uc, rfl, hp, hr, h6 0 _ rfl, h6 1 _ rfl, h6 2 _ rfl, h6 3 _ rfl, h6 4 _ rfl⟩
theorem RepL.nil (B : Nat) (w : World) : RepL B w [] (.slice none 0 0) := ⟨none, 0, fun _ => [], rfl, Nat.le_refl _, by omega, fun h => absurd rfl h, fun i t h => by simp at h⟩
theorem RepL.len {B : Nat} {w : World} {l : List Tree} {a : Option Addr} {n cap : Nat} (h : RepL B w l (.slice a n cap)) : n = l.length := by
  obtain ⟨a', cap', f, hv, -⟩ := h
  cases hv
  rfl
end Go.Proofs.Ytkhpglongkhbjaa
