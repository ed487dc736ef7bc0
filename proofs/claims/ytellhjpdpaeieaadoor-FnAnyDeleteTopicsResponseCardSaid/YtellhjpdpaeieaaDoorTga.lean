/- Unknown tags: the map in memory, what it says; Set. -/
import Derived.Test.YtellhjpdpaeieaaDoorRr
import Derived.Maps.OwnSet
import Derived.Maps.RangeWalk
import Derived.WalkSpells
namespace Go.Proofs.YtellhjpdpaeieaaDoor
open Go Go.RowKit Go.Maps
set_option linter.unusedVariables false

abbrev VD := DataW Value
/-- What a value of the map reads as: itself. -/
def R0 : Value → Option (VD × List MemPlace) := fun v => some (.held v, [])
def kl32 (k : Nat) : Lit := .int .u32 k
theorem kl32_wf {k : Nat} (h : k ≤ 4294967295) : (kl32 k).wf = true := by
  unfold kl32 Lit.wf
  simp [IntKind.min, IntKind.max, IntKind.bits, IntKind.signed]
  omega
theorem kl32_inj {j k : Nat} : kl32 j = kl32 k ↔ j = k := by
  unfold kl32
  simp
  omega
theorem kl32_key (k : Nat) : WideAt.IsKeyLit (kl32 k) := trivial
theorem tagKeyed : Keyed Tryd.prog 56 := int_keyed Tryd.underlying56
/-- The map that lies in a field: none, or a block. -/
def MapAt (w : World) (m : Option Nat) (n : Nat) (D : VD) : Prop := match m with
  | none => D = .map []
  | some g => w.ownsMap Tryd.prog 56 R0 g n D
theorem MapAt.isMap {w : World} {m : Option Nat} {n : Nat} {D : VD} (h : MapAt w m n D) : Tidy D := by
  cases m with
  | none => cases h; exact tidy_empty
  | some g => exact World.ownsMap.tidy h tagKeyed
/-- What the map says, as a list of tags. -/
structure View (O : List Nat) (w : World) (D : VD) (l : List (Nat × List UInt8)) : Prop where
  sorted : l.Pairwise fun p q => p.1 < q.1
  small : ∀ p, p ∈ l → p.1 ≤ 4294967295
  size : Maps.size D = l.length
  there : ∀ k bs, (k, bs) ∈ l → Maps.has D (kl32 k) = true ∧ ∃ v, (∀ z, D.atKey (kl32 k) z = .held v) ∧ RB O w v bs
  only : ∀ kl, Maps.has D kl = true → ∃ k bs, kl = kl32 k ∧ (k, bs) ∈ l
theorem View.keeps {O : List Nat} {w w' : World} {D : VD} {l : List (Nat × List UInt8)} (h : View O w D l) (hk : Keeps O w w') : View O w' D l :=
  ⟨h.sorted, h.small, h.size, fun k bs hm => by
    obtain ⟨h1, v, h2, h3⟩ := h.there k bs hm
    exact ⟨h1, v, h2, h3.keeps hk⟩, h.only⟩
theorem View.mono {O O' : List Nat} {w : World} {D : VD} {l : List (Nat × List UInt8)} (h : View O w D l) (hO : ∀ k, k ∈ O' → k ∈ O) : View O' w D l :=
  ⟨h.sorted, h.small, h.size, fun k bs hm => by
    obtain ⟨h1, v, h2, h3⟩ := h.there k bs hm
    exact ⟨h1, v, h2, h3.mono hO⟩, h.only⟩
theorem View.nil (O : List Nat) (w : World) : View O w (.map []) [] :=
  ⟨.nil, by simp, rfl, by simp, fun kl h => by simp [Maps.has] at h⟩
theorem mem_tagIns (k : Nat) (v : List UInt8) : ∀ (l : List (Nat × List UInt8)), l.Pairwise (fun p q => p.1 < q.1) → ∀ (p : Nat × List UInt8), p ∈ tagIns k v l ↔ p = (k, v) ∨ (p ∈ l ∧ p.1 ≠ k)
  | [], _, p => by simp [tagIns]
  | (j, u) :: r, h, p => by
    obtain ⟨h1, h2⟩ := List.pairwise_cons.1 h
    unfold tagIns
    split
    · rename_i hlt
      simp only [List.mem_cons]
      constructor
      · rintro (h | h | h)
        · exact .inl h
        · subst h; exact .inr ⟨.inl rfl, by simp only; omega⟩
        · have := h1 p h; exact .inr ⟨.inr h, by simp only at this ⊢; omega⟩
      · rintro (h | ⟨h, -⟩)
        · exact .inl h
        · exact .inr h
    · split
      · rename_i hn he
        subst he
        simp only [List.mem_cons]
        constructor
        · rintro (h | h)
          · exact .inl h
          · have := h1 p h; exact .inr ⟨.inr h, by simp only at this; omega⟩
        · rintro (h | ⟨h | h, hne⟩)
          · exact .inl h
          · subst h; exact absurd rfl hne
          · exact .inr h
      · rename_i hn he
        simp only [List.mem_cons, mem_tagIns k v r h2 p]
        constructor
        · rintro (h | h | ⟨h, hne⟩)
          · subst h; exact .inr ⟨.inl rfl, fun e => he e.symm⟩
          · exact .inl h
          · exact .inr ⟨.inr h, hne⟩
        · rintro (h | ⟨h | h, hne⟩)
          · exact .inr (.inl h)
          · exact .inl h
          · exact .inr (.inr ⟨h, hne⟩)
theorem sorted_tagIns (k : Nat) (v : List UInt8) : ∀ (l : List (Nat × List UInt8)), l.Pairwise (fun p q => p.1 < q.1) → (tagIns k v l).Pairwise fun p q => p.1 < q.1
  | [], _ => by simp [tagIns]
  | (j, u) :: r, h => by
    obtain ⟨h1, h2⟩ := List.pairwise_cons.1 h
    unfold tagIns
    split
    · rename_i hlt
      refine List.pairwise_cons.2 ⟨fun q hq => ?_, h⟩
      rcases List.mem_cons.1 hq with rfl | hq
      · exact hlt
      · exact Nat.lt_trans hlt (h1 q hq)
    · split
      · rename_i hn he
        subst he
        exact List.pairwise_cons.2 ⟨fun q hq => h1 q hq, h2⟩
      · rename_i hn he
        refine List.pairwise_cons.2 ⟨fun q hq => ?_, sorted_tagIns k v r h2⟩
        rcases (mem_tagIns k v r h2 q).1 hq with rfl | ⟨hq, -⟩
        · simp only; omega
        · exact h1 q hq
theorem length_tagIns (k : Nat) (v : List UInt8) : ∀ (l : List (Nat × List UInt8)), l.Pairwise (fun p q => p.1 < q.1) → (tagIns k v l).length = if l.any (fun p => p.1 == k) then l.length else l.length + 1
  | [], _ => by simp [tagIns]
  | (j, u) :: r, h => by
    obtain ⟨h1, h2⟩ := List.pairwise_cons.1 h
    unfold tagIns
    split
    · rename_i hlt
      rw [if_neg]
      · rfl
      · simp only [List.any_cons, Bool.or_eq_true, beq_iff_eq, List.any_eq_true, not_or, not_exists, not_and]
        refine ⟨by omega, fun q hq e => ?_⟩
        have := h1 q hq
        simp only at this
        omega
    · split
      · rename_i hn he
        subst he
        simp
      · rename_i hn he
        have e : ((j, u) :: r).any (fun p => p.1 == k) = r.any (fun p => p.1 == k) := by
          have : (j == k) = false := by simp; omega
          rw [List.any_cons, this, Bool.false_or]
        rw [e, List.length_cons, List.length_cons, length_tagIns k v r h2]
        split <;> rfl
theorem View.put {O : List Nat} {w : World} {D : VD} {l : List (Nat × List UInt8)} (h : View O w D l) (hT : Tidy D) {k : Nat} {bs : List UInt8} {v : Value} (hk : k ≤ 4294967295) (hv : RB O w v bs) : View O w (D.put (kl32 k) (.held v)) (tagIns k bs l) := by
  have hany : l.any (fun p => p.1 == k) = Maps.has D (kl32 k) := by
    rw [Bool.eq_iff_iff]
    simp only [List.any_eq_true, beq_iff_eq]
    constructor
    · rintro ⟨⟨k', bs'⟩, hm, rfl⟩
      exact (h.there _ _ hm).1
    · intro hh
      obtain ⟨k', bs', e, hm⟩ := h.only _ hh
      exact ⟨_, hm, (kl32_inj.1 e).symm⟩
  refine ⟨sorted_tagIns k bs l h.sorted, fun p hp => ?_, ?_, fun k' bs' hm => ?_, fun kl hh => ?_⟩
  · rcases (mem_tagIns k bs l h.sorted p).1 hp with rfl | ⟨hp, -⟩
    · exact hk
    · exact h.small p hp
  · rw [Maps.size_put hT, length_tagIns k bs l h.sorted, hany, h.size]
  · rcases (mem_tagIns k bs l h.sorted _).1 hm with e | ⟨hm, hne⟩
    · cases e
      exact ⟨has_put_same hT.isMap (kl32_key k) _, v, fun z => atKey_put_same hT.isMap (kl32_key k) _ z, hv⟩
    · have hne' : kl32 k' ≠ kl32 k := fun e => hne (kl32_inj.1 e)
      obtain ⟨h1, v', h2, h3⟩ := h.there k' bs' hm
      exact ⟨by rw [has_put_other hne']; exact h1, v', fun z => by rw [atKey_put_other hne']; exact h2 z, h3⟩
  · by_cases he : kl = kl32 k
    · exact ⟨k, bs, he, (mem_tagIns k bs l h.sorted _).2 (.inl rfl)⟩
    · rw [has_put_other he] at hh
      obtain ⟨k', bs', rfl, hm⟩ := h.only kl hh
      exact ⟨k', bs', rfl, (mem_tagIns k bs l h.sorted _).2 (.inr ⟨hm, fun e => he (congrArg kl32 e)⟩)⟩
/-- How tags lie in memory. -/
def TagMem : RTags := fun O w b o l => ∃ m n D, w.cell? ⟨b, o, none⟩ = some (.map m) ∧ MapAt w m n D ∧ n ≤ 4294967296 ∧ View O w D l ∧ (∀ g, m = some g → g ∉ O) ∧ l.length ≤ 2147483646 ∧ ∀ t, t ∈ l → t.2.length ≤ 2147483646
theorem ownsMap_block {P : Program} {k : TypeId} {R : Value → Option (VD × List MemPlace)} {w w' : World} {g n : Nat} {D : VD} (h : w.ownsMap P k R g n D) (hb : w'.heap[g]? = w.heap[g]?) : w'.ownsMap P k R g n D := by
  obtain ⟨es, clock, h1, h2⟩ := h
  exact ⟨es, clock, hb.trans h1, h2⟩
theorem MapAt.keeps {O : List Nat} {w w' : World} {m : Option Nat} {n : Nat} {D : VD} (h : MapAt w m n D) (hk : Keeps O w w') (hO : ∀ g, m = some g → g ∉ O) : MapAt w' m n D := by
  cases m with
  | none => exact h
  | some g => exact ownsMap_block h (hk.block g (World.ownsMap.lt h) (hO g rfl))
theorem tags_keep : RTKeep TagMem := by
  rintro O w w' b o l ⟨m, n, D, h1, h2, h3, h4, h5, h6⟩ hk hc
  exact ⟨m, n, D, hc.trans h1, h2.keeps hk h5, h3, h4.keeps hk, h5, h6⟩
theorem tags_mono : RTMono TagMem := by
  rintro O O' w b o l ⟨m, n, D, h1, h2, h3, h4, h5, h6⟩ hO
  exact ⟨m, n, D, h1, h2, h3, h4.mono hO, fun g hg hgO => h5 g hg (hO g hgO), h6⟩
theorem tags_zero : ∀ O w b o, w.cell? ⟨b, o, none⟩ = some (.map none) → TagMem O w b o [] := fun O w b o h => ⟨none, 0, .map [], h, rfl, by omega, View.nil O w, fun g hg => (by cases hg), by simp, by simp⟩

set_option maxHeartbeats 1000000 in
theorem tagsSet (w : World) (p T : Nat) (m : Option Nat) (n : Nat) (D : VD) (k : Nat) (v : Value) (hB : Blk w p [.map m] T) (hm : MapAt w m n D) (hn : n < maxLen) (hk : k ≤ 4294967295) (hp : ∀ g, m = some g → g ≠ p) :
    Calls Tryd.prog 115 #[.pointer (some ⟨p, 0, none⟩), .int .u32 (k : Nat), v] w fun e w' => e = .returned (.tuple #[]) ∧ ∃ g, Blk w' p [.map (some g)] T ∧ w'.ownsMap Tryd.prog 56 R0 g (n + 1) (D.put (kl32 k) (.held v)) ∧ ((m = some g ∧ Keeps [g] w w') ∨ (m = none ∧ g = w.heap.size ∧ Keeps [p] w w')) := by
  have hkey := keyOf_int_mk Tryd.underlying56 (kl32_wf hk)
  have m0 := hB.cell_some (i := 0) rfl
  have f0 := hB.frozen 0
  have qT : ∀ (w : World) (r : Option Nat), (binOp .eql 48 (.map r) (.map none)).run Tryd.prog w = .ok (.bool r.isNone) w := fun w r => run_eql_map_nil w _ _ _ r Tryd.underlying48
  cases m with
  | some g =>
    have hown : w.ownsMap Tryd.prog 56 R0 g n D := hm
    have hgp := hp g rfl
    clear hm hp
    have HB := Lib.hid hB
    clear hB
    go_enter Tryd.func115, Tryd.ntmps115
    go_wp2_with (first
      | (at_mapUpdate; refine wpList_mapUpdate_own _ rfl _ _ _ 48 rfl 56 22 tagKeyed Tryd.underlying48 _ g n D rfl hown hn _ _ _ rfl rfl hkey _ [] rfl ?_; intro w1 hown1 hgrow1)
      | go_in)
    go_end0
    have hk1 : Keeps [g] w w1 := (Keeps.refl [g] w).grown hgrow1 (fun j hj => .inl (by cases hj; simp))
    exact ⟨rfl, g, HB.out.keeps hk1 (by simpa using fun e => hgp e.symm), hown1, rfl, hk1⟩
  | none =>
    cases hm
    have hlt := hB.lt
    have hsz : (w.setCell ⟨p, 0, none⟩ (.map (some w.heap.size))).heap.size = w.heap.size := by simp [World.setCell]
    have hown : ((w.setCell ⟨p, 0, none⟩ (.map (some w.heap.size))).alloc (.map #[] 0)).ownsMap Tryd.prog 56 R0 w.heap.size 0 (.map []) := by
      have h := World.ownsMap_made (H := Value) (w.setCell ⟨p, 0, none⟩ (.map (some w.heap.size))) Tryd.prog 56 R0
      rwa [hsz] at h
    have h0 : 0 < maxLen := by unfold maxLen; omega
    have hmm := @run_makeMap Tryd.prog
    have HB := Lib.hid hB
    have HO := Lib.hid (And.intro h0 hown)
    clear hB hp h0 hown hsz
    go_enter Tryd.func115, Tryd.ntmps115
    go_wp2_with (first
      | (at_mapUpdate; refine wpList_mapUpdate_own _ rfl _ _ _ 48 rfl 56 22 tagKeyed Tryd.underlying48 _ w.heap.size 0 _ rfl HO.out.2 HO.out.1 _ _ _ rfl rfl hkey _ [] rfl ?_; intro w1 hown1 hgrow1)
      | go_in)
    go_end0
    have hB1 : Blk ((w.setCell ⟨p, 0, none⟩ (.map (some w.heap.size))).alloc (.map #[] 0)) p [.map (some w.heap.size)] T := (HB.out.set 0 _).keeps ((Keeps.refl [] _).alloc _) (by simp)
    have hk0 : Keeps [p] w ((w.setCell ⟨p, 0, none⟩ (.map (some w.heap.size))).alloc (.map #[] 0)) := ((Keeps.refl [p] w).setCell (by simp) _).alloc _
    have hk1 : Keeps [w.heap.size] ((w.setCell ⟨p, 0, none⟩ (.map (some w.heap.size))).alloc (.map #[] 0)) w1 := (Keeps.refl _ _).grown hgrow1 (fun j hj => .inl (by cases hj; simp))
    exact ⟨rfl, w.heap.size, hB1.keeps hk1 (by simp; omega), hown1.mono (by omega), rfl, ((hk0.mono (O' := [w.heap.size, p]) (by simp)).trans (hk1.mono (by simp))).close (Nat.le_refl _)⟩
end Go.Proofs.YtellhjpdpaeieaaDoor
