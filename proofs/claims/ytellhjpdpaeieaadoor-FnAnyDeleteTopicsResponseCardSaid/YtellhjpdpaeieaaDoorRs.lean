/- Defaults: a part's own values, laid into a fresh part. -/
import Derived.Test.YtellhjpdpaeieaaDoorRr
namespace Go.Proofs.YtellhjpdpaeieaaDoor
open Go Go.RowKit
set_option linter.unusedVariables false

section
variable {P : Program} {nt : Nat} {sch : Sch} {n : Nat}
/-- The code c lays defaults into the part whose address lies in slot 0, into cells from n on. -/
def DefW (P : Program) (nt n : Nat) (sch : Sch) (c : Code) : Prop := ∀ (w : World) (b o T : Nat) (cs : List Value) (a : Act) (Q : Exit → Act → World → Prop), a.tmps.size = nt → a.defers = [] → aget a 0 = .pointer (some ⟨b, o, none⟩) → Blk w b cs T → Fresh cs o sch →
  (∀ a' w' cs', a'.tmps.size = nt → a'.defers = [] → aget a' 0 = .pointer (some ⟨b, o, none⟩) → Blk w' b cs' T → SameOut cs cs' (o + n) (o + top sch) → Keeps [b] w w' → Fresh cs' o sch → Q .normal a' w') → c.wp P Q a w
theorem DefW.skip : DefW P nt n sch .skip := fun w b o T cs a Q h1 h2 h3 h4 h5 hq => wp_skip (hq a w cs h1 h2 h3 h4 (SameOut.refl _ _ _) (Keeps.refl _ _) h5)
theorem DefW.seq {c1 c2 : Code} (h1 : DefW P nt n sch c1) (h2 : DefW P nt n sch c2) : DefW P nt n sch (c1.seq c2) := fun w b o T cs a Q g1 g2 g3 g4 g5 hq => wp_seq (h1 w b o T cs a _ g1 g2 g3 g4 g5 fun a1 w1 cs1 k1 k2 k3 k4 k5 k6 k7 =>
  h2 w1 b o T cs1 a1 _ k1 k2 k3 k4 k7 fun a2 w2 cs2 j1 j2 j3 j4 j5 j6 j7 => hq a2 w2 cs2 j1 j2 j3 j4 (k5.trans j5 ⟨Nat.le_refl _, Nat.le_refl _⟩ ⟨Nat.le_refl _, Nat.le_refl _⟩) (k6.trans j6) j7)
/-- Cell i is none of those that must be empty. -/
def freeAt (i : Nat) : Nat → Sch → Bool
  | _, .leaf _ => true
  | p, .list _ _ _ => decide (p ≠ i)
  | p, .opt _ => decide (p ≠ i)
  | _, .done => true
  | p, .tags off => decide (p + off ≠ i)
  | p, .cons off _ _ f rest => freeAt i (p + off) f && freeAt i p rest
def leafAt (i : Nat) : Nat → Sch → Bool
  | p, .leaf .uuid => false
  | p, .leaf _ => decide (p = i)
  | p, .cons off _ _ f rest => leafAt i (p + off) f || leafAt i p rest
  | _, _ => false
theorem fresh_set {v : Value} {i o : Nat} : ∀ {s : Sch} {p : Nat} {cs : List Value}, freeAt i p s = true → Fresh cs (o + p) s → Fresh (cs.set (o + i) v) (o + p) s
  | .leaf k, p, cs, h, hF => by cases k <;> simpa only [Fresh, List.length_set] using hF
  | .list _ _ _, p, cs, h, hF => by
    simp only [freeAt, decide_eq_true_eq] at h
    simp only [Fresh] at hF ⊢
    rw [List.getElem?_set_ne (by omega)]
    exact hF
  | .opt _, p, cs, h, hF => by
    simp only [freeAt, decide_eq_true_eq] at h
    simp only [Fresh] at hF ⊢
    rw [List.getElem?_set_ne (by omega)]
    exact hF
  | .done, p, cs, h, hF => trivial
  | .tags off, p, cs, h, hF => by
    simp only [freeAt, decide_eq_true_eq] at h
    simp only [Fresh] at hF ⊢
    rw [List.getElem?_set_ne (by omega)]
    exact hF
  | .cons off lo hi f rest, p, cs, h, hF => by
    simp only [freeAt, Bool.and_eq_true] at h
    simp only [Fresh] at hF ⊢
    refine ⟨?_, fresh_set h.2 hF.2⟩
    rw [Nat.add_assoc] at hF ⊢
    exact fresh_set h.1 hF.1
theorem leaf_lt {i o : Nat} : ∀ {s : Sch} {p : Nat} {cs : List Value}, leafAt i p s = true → Fresh cs (o + p) s → o + i < cs.length
  | .leaf k, p, cs, h, hF => by cases k <;> simp only [leafAt, decide_eq_true_eq, Bool.false_eq_true] at h <;> (subst h; exact hF)
  | .list _ _ _, p, cs, h, hF => by simp [leafAt] at h
  | .opt _, p, cs, h, hF => by simp [leafAt] at h
  | .done, p, cs, h, hF => by simp [leafAt] at h
  | .tags off, p, cs, h, hF => by simp [leafAt] at h
  | .cons off lo hi f rest, p, cs, h, hF => by
    simp only [leafAt, Bool.or_eq_true] at h
    simp only [Fresh] at hF
    rcases h with h | h
    · rw [Nat.add_assoc] at hF
      exact leaf_lt h hF.1
    · exact leaf_lt h hF.2
/-- 'v.F = c'. -/
theorem DefW.one {i t1 T' k U r y1 y2 y3 y4 : Nat} {q1 q2 q3 q4 : String} {g1 g2 g3 g4 : Array Edge} {x : Value} (hT : FieldAt P T' k i) (hU : OneCell P U) (hx : One x) (hf : (freeAt i 0 sch && leafAt i 0 sch && decide (n ≤ i) && decide (i < top sch)) = true) (hd : 0 < t1 ∧ t1 + 2 < nt) :
    DefW P nt n sch (.region r #[⟨some t1, .move (.tmp 0), y1, q1, g1, none⟩, ⟨some (t1 + 1), .nilCheck (.tmp t1), y2, q2, g2, none⟩, ⟨some (t1 + 2), .fieldAddr T' (.tmp (t1 + 1)) k, y3, q3, g3, none⟩, ⟨none, .store U (.tmp (t1 + 2)) (.const x), y4, q4, g4, none⟩] false) := by
  intro w b o T cs a Q hN hdf h0 hB hF hq
  obtain ⟨d1, d2⟩ := hd
  simp only [Bool.and_eq_true, decide_eq_true_eq] at hf
  have hlt : o + i < cs.length := leaf_lt hf.1.1.2 (by simpa using hF)
  refine wp_reg ?_
  refine wl_move h0 ?_
  refine wl_nilCheck (aget_put_same _ _ _ (by omega)) ?_
  refine wl_fieldAddr hT (aget_put_same _ _ _ (by simp only [size_put]; omega)) ?_
  rw [Addr.add_lit]
  refine wl_store (w' := w.setCell ⟨b, o + i, none⟩ x) ?_ ?_
  · rw [aget_eval, aget_put_same _ _ _ (by simp only [size_put]; omega)]
    exact run_store_blk hU hB hlt hx
  · refine wpList_nil (hq _ _ (cs.set (o + i) x) (by simp only [size_put, hN]) (by simp only [defers_put, hdf]) ?_ (hB.set _ _) ((SameOut.set cs (o + i) x).mono (by omega) (by omega)) ((Keeps.refl [b] w).setCell (by simp) _) ?_)
    · rw [aget_put_other _ _ _ _ (by omega), aget_put_other _ _ _ _ (by omega), aget_put_other _ _ _ _ (by omega)]; exact h0
    · have h := fresh_set (v := x) (i := i) (o := o) hf.1.1.1 (by simpa using hF)
      simpa using h
theorem DefW.calls {F : Nat} {fn : Func} {c : Code} (hf : P.funcs[F]? = some fn) (hb : fn.body = some c) (hnt : fn.ntmps = nt) (h1 : 0 < nt) (hr : fn.results = #[]) (h : DefW P nt n sch c) (w : World) (b o T : Nat) (cs : List Value) (hB : Blk w b cs T) (hF : Fresh cs o sch) :
    Calls P F #[.pointer (some ⟨b, o, none⟩)] w fun en w' => ∃ cs', en = .returned (.tuple #[]) ∧ Blk w' b cs' T ∧ SameOut cs cs' (o + n) (o + top sch) ∧ Keeps [b] w w' ∧ Fresh cs' o sch := by
  refine calls_of_wp hf hb ?_
  rw [hnt]
  refine h w b o T cs _ _ ?_ rfl ?_ hB hF fun a' w' cs' k1 k2 k3 k4 k5 k6 k7 => ?_
  · simp; omega
  · simp [aget, Array.getD_eq_getD_getElem?, Array.getElem?_append]
  · exact bodyPost_end (results_none hr _ _ _) k2 ⟨cs', rfl, k4, k5, k6, k7⟩
theorem DefW.defC {F : Nat} {fn : Func} {c : Code} (hf : P.funcs[F]? = some fn) (hb : fn.body = some c) (hnt : fn.ntmps = nt) (h1 : 0 < nt) (hr : fn.results = #[]) (h : DefW P nt 0 sch c) : DefC P F sch :=
  fun w b o T cs hB hF => h.calls hf hb hnt h1 hr w b o T cs hB hF
theorem DefW.defT {F off0 : Nat} {fn : Func} {c : Code} (hf : P.funcs[F]? = some fn) (hb : fn.body = some c) (hnt : fn.ntmps = nt) (h1 : 0 < nt) (hr : fn.results = #[]) (h : DefW P nt n sch c) (hn : off0 < n) (w : World) (b o T : Nat) (cs : List Value) (hB : Blk w b cs T) (hF : Fresh cs o sch) : DefT P F b o T off0 sch w :=
  (h.calls hf hb hnt h1 hr w b o T cs hB hF).mono fun en w' ⟨cs', k1, k2, k3, k4, k5⟩ => ⟨cs', k1, k2, k4, k5, by rw [k2.cell, hB.cell, k3.out _ (.inl (by omega))]⟩
end
end Go.Proofs.YtellhjpdpaeieaaDoor
