/- Unknown tags: reading them. -/
import Derived.Test.YtellhjpdpaeieaaDoorTga
namespace Go.Proofs.YtellhjpdpaeieaaDoor
open Go Go.RowKit Go.Maps
set_option linter.unusedVariables false

theorem uvVal {O : List Nat} {rb : Nat} {w : World} {st : Option (List UInt8)} {e : Ending} {w' : World} (h : RdPost rdUv (fun _ _ v n => v = .int .u32 (n : Nat)) (fun v => v = .int .u32 0) O rb w st e w') :
    ∃ k : Nat, e = .returned (.int .u32 (k : Nat)) ∧ k ≤ 4294967295 ∧ Rdr O w' rb ((st.bind rdUv).map (·.2)) ∧ Keeps [rb] w w' ∧ ∀ n r, st.bind rdUv = some (n, r) → n = k := by
  obtain ⟨v, rfl, h1, h2, h3, h4⟩ := h
  cases hx : st.bind rdUv with
  | none => exact ⟨0, by rw [h3 hx]; rfl, by omega, by rw [hx] at h1; exact h1, h2, fun n r h => by cases h⟩
  | some q =>
    refine ⟨q.1, by rw [h4 q.1 q.2 hx], ?_, by rw [hx] at h1; exact h1, h2, fun n r h => by cases h; rfl⟩
    cases st with
    | none => cases hx
    | some bs => exact (out_uv (r := q.2) hx).1
def tgO (p2 p3 : Nat) (m : Option Nat) (O : List Nat) : List Nat := match m with
  | none => p3 :: p2 :: O
  | some g => g :: p3 :: p2 :: O
theorem mem_tgO {p2 p3 : Nat} {m : Option Nat} {O : List Nat} {k : Nat} : k ∈ tgO p2 p3 m O ↔ m = some k ∨ k = p3 ∨ k = p2 ∨ k ∈ O := by
  cases m with
  | none => simp [tgO]
  | some g => simp [tgO, eq_comm]
/-- The loop, behind some rounds. -/
structure TgInv (O : List Nat) (rb p2 p3 T : Nat) (w0 : World) (st : Option (List UInt8)) (N j : Nat) (m : Option Nat) (D : VD) (v : Value) (wr : World) : Prop where
  le : j ≤ N
  val : v = .int .u32 ((N - j : Nat) : Int)
  b3 : Blk wr p3 [.map m] T
  b2 : Blk wr p2 [.map none] T
  map : MapAt wr m j D
  new : ∀ g, m = some g → w0.heap.size ≤ g ∧ g ≠ p2 ∧ g ≠ p3 ∧ g < wr.heap.size
  rdr : Rdr (tgO p2 p3 m O) wr rb ((st.bind (rdMany rdTag1 j)).map (·.2))
  keeps : Keeps [rb] w0 wr
  view : ∀ l r, st.bind (rdMany rdTag1 j) = some (l, r) → View (tgO p2 p3 m O) wr D (tagSort l)
theorem tagSort_snoc (l : List (Nat × List UInt8)) (k : Nat) (v : List UInt8) : tagSort (l ++ [(k, v)]) = tagIns k v (tagSort l) := by
  unfold tagSort
  rw [List.foldl_append]
  rfl
theorem many_st {α : Type} (p : Pr α) (j : Nat) (st : Option (List UInt8)) : st.bind (rdMany p (j + 1)) = (st.bind (rdMany p j)).bind fun q => (p q.2).bind fun r => some (q.1 ++ [r.1], r.2) := by
  cases st with
  | none => rfl
  | some bs =>
    change rdMany p (j + 1) bs = _
    rw [many_snoc]
    change _ = (rdMany p j bs).bind _
    cases h : rdMany p j bs with
    | none => rw [bind_none h]; rfl
    | some q =>
      rw [bind_eq (v := q.1) (r := q.2) h]
      change _ = (p q.2).bind _
      cases h2 : p q.2 with
      | none => rw [bind_none h2]; rfl
      | some r => rw [bind_eq (v := r.1) (r := r.2) h2]; rfl
theorem tag1_st (bs : List UInt8) : rdTag1 bs = (rdUv bs).bind fun a => (rdUv a.2).bind fun b => (rdSpan (b.1 : Nat) b.2).bind fun c => some ((a.1, c.1), c.2) := by
  unfold rdTag1
  cases h1 : rdUv bs with
  | none => rw [bind_none h1]; rfl
  | some a =>
    rw [bind_eq (v := a.1) (r := a.2) h1]
    simp only [Option.bind_some]
    cases h2 : rdUv a.2 with
    | none => rw [bind_none h2]; rfl
    | some b =>
      rw [bind_eq (v := b.1) (r := b.2) h2]
      simp only [Option.bind_some]
      have e : rdSpan (b.1 : Nat) = rdTake b.1 := by
        unfold rdSpan
        rw [if_neg (by omega), Int.toNat_natCast]
      rw [e]
      cases h3 : rdTake b.1 b.2 with
      | none => rw [bind_none h3]; rfl
      | some c => rw [bind_eq (v := c.1) (r := c.2) h3]; rfl
/-- One round, of what the calls say. -/
theorem tg_step {O : List Nat} {rb p2 p3 T : Nat} {w0 : World} {st : Option (List UInt8)} {N j : Nat} {m : Option Nat} {D : VD} {wr w1 w2 w3 w4 : World} {v v3 : Value} {k1 k2 g : Nat} (h : TgInv O rb p2 p3 T w0 st N j m D v wr) (hj : j < N)
    (hrb : rb ∈ O) (hO2 : p2 ∉ O) (hO3 : p3 ∉ O) (hp : p2 ≠ p3) (hw : w0.heap.size ≤ p2) (hw3 : w0.heap.size ≤ p3) (hr : rb < w0.heap.size)
    (h1 : Rdr (tgO p2 p3 m O) w1 rb ((((st.bind (rdMany rdTag1 j)).map (·.2)).bind rdUv).map (·.2)) ∧ Keeps [rb] wr w1 ∧ ∀ n r, ((st.bind (rdMany rdTag1 j)).map (·.2)).bind rdUv = some (n, r) → n = k1) (hk1 : k1 ≤ 4294967295)
    (h2 : Rdr (tgO p2 p3 m O) w2 rb ((((((st.bind (rdMany rdTag1 j)).map (·.2)).bind rdUv).map (·.2)).bind rdUv).map (·.2)) ∧ Keeps [rb] w1 w2 ∧ ∀ n r, ((((st.bind (rdMany rdTag1 j)).map (·.2)).bind rdUv).map (·.2)).bind rdUv = some (n, r) → n = k2)
    (h3 : Rdr (tgO p2 p3 m O) w3 rb ((((((((st.bind (rdMany rdTag1 j)).map (·.2)).bind rdUv).map (·.2)).bind rdUv).map (·.2)).bind (rdSpan (k2 : Nat))).map (·.2)) ∧ Keeps [rb] w2 w3 ∧ ∀ s r, ((((((st.bind (rdMany rdTag1 j)).map (·.2)).bind rdUv).map (·.2)).bind rdUv).map (·.2)).bind (rdSpan (k2 : Nat)) = some (s, r) → RB (tgO p2 p3 m O) w3 v3 s)
    (h4 : Blk w4 p3 [.map (some g)] T ∧ w4.ownsMap Tryd.prog 56 R0 g (j + 1) (D.put (kl32 k1) (.held v3)) ∧ ((m = some g ∧ Keeps [g] w3 w4) ∨ (m = none ∧ g = w3.heap.size ∧ Keeps [p3] w3 w4))) :
    TgInv O rb p2 p3 T w0 st N (j + 1) (some g) (D.put (kl32 k1) (.held v3)) (.int .u32 ((N - (j + 1) : Nat) : Int)) w4 := by
  obtain ⟨r1, a1, g1⟩ := h1
  obtain ⟨r2, a2, g2⟩ := h2
  obtain ⟨r3, a3, g3⟩ := h3
  obtain ⟨b4, o4, f4⟩ := h4
  have kr3 : Keeps [rb] wr w3 := (a1.trans a2).trans a3
  have hrb3 : rb ≠ p3 := by rintro rfl; omega
  have hrb2 : rb ≠ p2 := by rintro rfl; omega
  have b33 : Blk w3 p3 [.map m] T := h.b3.keeps kr3 (by simpa using fun e => hrb3 e.symm)
  have b23 : Blk w3 p2 [.map none] T := h.b2.keeps kr3 (by simpa using fun e => hrb2 e.symm)
  have hs3 := kr3.size
  have hk0 := h.keeps.size
  -- what turned in the store
  have hgn : w0.heap.size ≤ g ∧ g ≠ p2 ∧ g ≠ p3 := by
    rcases f4 with ⟨hm, -⟩ | ⟨-, hg, -⟩
    · have := h.new g hm; exact ⟨this.1, this.2.1, this.2.2.1⟩
    · have := b33.lt; have := b23.lt; exact ⟨by omega, by omega, by omega⟩
  have hk4 : Keeps (tgO p2 p3 m O) w3 w4 := by
    rcases f4 with ⟨hm, hk⟩ | ⟨hm, -, hk⟩
    · exact hk.mono fun k hk => by rw [List.mem_singleton] at hk; subst hk; exact mem_tgO.2 (.inl hm)
    · exact hk.mono fun k hk => by rw [List.mem_singleton] at hk; subst hk; exact mem_tgO.2 (.inr (.inl rfl))
  have hk4' : ∀ b, b ≠ g → b ≠ p3 → b < w3.heap.size → w4.heap[b]? = w3.heap[b]? := by
    intro b h1 h2 h3
    rcases f4 with ⟨hm, hk⟩ | ⟨hm, -, hk⟩
    · exact hk.block b h3 (by simpa using h1)
    · exact hk.block b h3 (by simpa using h2)
  have hkq : Keeps [g, p3] w3 w4 := by
    rcases f4 with ⟨hm, hk⟩ | ⟨hm, -, hk⟩
    · exact hk.mono (by simp)
    · exact hk.mono (by simp)
  have hgrb : rb ≠ g := by rintro rfl; omega
  -- the reader and what was read, with the new block open
  have hopen : ∀ {s : Option (List UInt8)}, Rdr (tgO p2 p3 m O) w3 rb s → Rdr (tgO p2 p3 (some g) O) w4 rb s := by
    intro s hs
    have hs4 : Rdr (tgO p2 p3 (some g) O) w3 rb s := by
      rcases f4 with ⟨hm, -⟩ | ⟨hm, hg, -⟩
      · rw [← hm]; exact hs
      · subst hm; exact hs.open (by omega)
    exact hs4.other hkq (by simp; exact ⟨hgrb, hrb3⟩) (by intro k hk; simp at hk; rcases hk with rfl | rfl <;> exact mem_tgO.2 (by simp))
  have hRBo : ∀ {x : Value} {s : List UInt8}, RB (tgO p2 p3 m O) w3 x s → RB (tgO p2 p3 (some g) O) w4 x s := by
    intro x s hs
    have hs4 : RB (tgO p2 p3 (some g) O) w3 x s := by
      rcases f4 with ⟨hm, -⟩ | ⟨hm, hg, -⟩
      · rw [← hm]; exact hs
      · subst hm; exact hs.openNew (by omega)
    exact hs4.keeps (hkq.mono (by intro k hk; simp at hk; rcases hk with rfl | rfl <;> exact mem_tgO.2 (by simp)))
  have hst : st.bind (rdMany rdTag1 (j + 1)) = (((((st.bind (rdMany rdTag1 j)).map (·.2)).bind rdUv).map (·.2)).bind rdUv).bind fun b => (rdSpan (b.1 : Nat) b.2).bind fun c => some ((((st.bind (rdMany rdTag1 j)).map (·.1)).getD []) ++ [(k1, c.1)], c.2) := by
    rw [many_st]
    cases hq : st.bind (rdMany rdTag1 j) with
    | none => rfl
    | some q =>
      rw [hq] at g1
      simp only [Option.bind_some, Option.map_some, Option.getD_some] at g1 ⊢
      rw [tag1_st]
      cases hu : rdUv q.2 with
      | none => rfl
      | some a =>
        have := g1 a.1 a.2 hu
        subst this
        simp only [Option.bind_some, Option.map_some]
        cases hu2 : rdUv a.2 with
        | none => rfl
        | some b =>
          simp only [Option.bind_some]
          cases rdSpan (b.1 : Nat) b.2 <;> rfl
  refine ⟨by omega, rfl, b4, ?_, o4, fun g' hg' => ?_, ?_, ?_, fun l r hl => ?_⟩
  · exact (hk4' p2 hgn.2.1.symm hp b23.lt).trans b23
  · cases hg'
    exact ⟨hgn.1, hgn.2.1, hgn.2.2, World.ownsMap.lt o4⟩
  · have e : ((st.bind (rdMany rdTag1 (j + 1))).map (·.2)) = (((((((st.bind (rdMany rdTag1 j)).map (·.2)).bind rdUv).map (·.2)).bind rdUv).map (·.2)).bind (rdSpan (k2 : Nat))).map (·.2) := by
      rw [hst]
      cases hx : ((((st.bind (rdMany rdTag1 j)).map (·.2)).bind rdUv).map (·.2)).bind rdUv with
      | none => rfl
      | some b =>
        have := g2 b.1 b.2 hx
        subst this
        simp only [Option.bind_some, Option.map_some]
        cases rdSpan (b.1 : Nat) b.2 <;> rfl
    rw [e]
    exact hopen r3
  · have k03 : Keeps [rb] w0 w3 := h.keeps.trans kr3
    have k04 : Keeps [g, p3, rb] w0 w4 := (k03.mono (by simp)).trans (hkq.mono (by simp))
    exact (k04.close hgn.1).close hw3
  · rw [hst] at hl
    cases hx : ((((st.bind (rdMany rdTag1 j)).map (·.2)).bind rdUv).map (·.2)).bind rdUv with
    | none => rw [hx] at hl; cases hl
    | some b =>
      rw [hx] at hl g3
      have := g2 b.1 b.2 hx
      subst this
      simp only [Option.bind_some, Option.map_some] at hl g3
      cases hy : rdSpan (b.1 : Nat) b.2 with
      | none => rw [hy] at hl; cases hl
      | some c =>
        rw [hy] at hl g3
        simp only [Option.bind_some, Option.some.injEq, Prod.mk.injEq] at hl
        obtain ⟨rfl, rfl⟩ := hl
        cases hq : st.bind (rdMany rdTag1 j) with
        | none => rw [hq] at hx; cases hx
        | some q =>
          have hv := h.view q.1 q.2 hq
          simp only [Option.map_some, Option.getD_some]
          rw [tagSort_snoc]
          have hT : Tidy D := h.map.isMap
          have hV4 : View (tgO p2 p3 (some g) O) w4 D (tagSort q.1) := by
            have hv3 := hv.keeps (kr3.mono (fun k hk => by rw [List.mem_singleton] at hk; subst hk; exact mem_tgO.2 (.inr (.inr (.inr hrb)))))
            exact ⟨hv3.sorted, hv3.small, hv3.size, fun k bs hm => by
              obtain ⟨u1, u2, u3, u4⟩ := hv3.there k bs hm
              exact ⟨u1, u2, u3, hRBo u4⟩, hv3.only⟩
          exact hV4.put hT hk1 (hRBo (g3 c.1 c.2 rfl))
end Go.Proofs.YtellhjpdpaeieaaDoor
