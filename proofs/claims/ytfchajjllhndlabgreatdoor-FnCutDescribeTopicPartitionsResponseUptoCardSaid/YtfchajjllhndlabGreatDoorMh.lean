/- Shared texts of these proofs, laid together by merge.py: Ot, Cu, Ag, Rpp, Rop, Appo. -/
import Derived.Test.YtfchajjllhndlabGreatDoorMf
import Derived.Test.YtfchajjllhndlabGreatDoorMg
import Derived.Test.YtfchajjllhndlabGreatDoorRows
import Derived.Test.YtfchajjllhndlabGreatDoorMe
set_option linter.unusedVariables false
/- A tree that came in, as the walks take it. -/
namespace Go.Proofs.YtfchajjllhndlabGreatDoor
open Go Go.RowKit Go.ChangeShapes

theorem cellsU8 : Tryz.prog.cellsOf 5 = 1 := by kernel_rfl
theorem cellsU32 : Tryz.prog.cellsOf 77 = 1 := by kernel_rfl
theorem cellsI64 : Tryz.prog.cellsOf 2 = 1 := by kernel_rfl
theorem cellsBo : Tryz.prog.cellsOf 4 = 1 := by kernel_rfl
theorem cellsSl : Tryz.prog.cellsOf 22 = 1 := by kernel_rfl
theorem cellsSlT : Tryz.prog.cellsOf 23 = 1 := by kernel_rfl
theorem cellsSlU : Tryz.prog.cellsOf 24 = 1 := by kernel_rfl
theorem cellsTag : Tryz.prog.cellsOf 79 = 2 := by kernel_rfl
theorem cellsTree : Tryz.prog.cellsOf 26 = 5 := by kernel_rfl
theorem wfU32 {z : Int} (h : (Lit.int .u32 z).wf = true) : 0 ≤ z ∧ z ≤ 4294967295 := by
  simp [Lit.wf, IntKind.min, IntKind.max, IntKind.signed, IntKind.bits] at h
  omega
theorem wfI64 {z : Int} (h : (Lit.int .i64 z).wf = true) : -9223372036854775808 ≤ z ∧ z ≤ 9223372036854775807 := by
  simp [Lit.wf, IntKind.min, IntKind.max, IntKind.signed, IntKind.bits] at h
  omega
theorem pick {α : Type} [Inhabited α] {n : Nat} {p : Nat → α → Prop} (h : ∀ i, i < n → ∃ x, p i x) : ∃ f : Nat → α, ∀ i, i < n → p i (f i) := by
  refine ⟨fun i => if hi : i < n then Classical.choose (h i hi) else default, fun i hi => ?_⟩
  show p i (if hi : i < n then Classical.choose (h i hi) else default)
  rw [dif_pos hi]
  exact Classical.choose_spec (h i hi)

theorem list2 {α : Type} {l : List α} (h : l.length = 2) : ∃ a b, l = [a, b] := by
  match l, h with
  | [a, b], _ => exact ⟨a, b, rfl⟩
theorem list5 {α : Type} {l : List α} (h : l.length = 5) : ∃ a b c d e, l = [a, b, c, d, e] := by
  match l, h with
  | [a, b, c, d, e], _ => exact ⟨a, b, c, d, e, rfl⟩
theorem bulk_one {H : Type} (d : DataW H) : 1 ≤ Rows.uptoBulk d := by
  cases d with
  | lit l => cases l <;> simp [Rows.uptoBulk]
  | nil => simp [Rows.uptoBulk]
  | ptr d => simp [Rows.uptoBulk]
  | slice elems spare => simp [Rows.uptoBulk]
  | agg parts => simp [Rows.uptoBulk]
  | iface t d => simp [Rows.uptoBulk]
  | map entries => simp [Rows.uptoBulk]
  | held h => simp [Rows.uptoBulk]
theorem bulk_length {H : Type} : ∀ l : List (DataW H), l.length ≤ Rows.uptoBulkAll l
  | [] => by simp [Rows.uptoBulkAll]
  | x :: r => by
    have h1 := bulk_one x
    have h2 := bulk_length r
    simp only [Rows.uptoBulkAll, List.length_cons]
    omega
theorem bulk_sum {H α : Type} (f : α → Nat) : ∀ (n : Nat) (g : Nat → α) (elems : List (DataW H × List MemPlace)), elems.length = n → (∀ i (hi : i < elems.length), f (g i) ≤ Rows.uptoBulk (elems[i]).1) →
    (((List.range n).map g).map f).sum ≤ Rows.uptoBulkAll (elems.map (·.1))
  | 0, g, elems, _, _ => by simp
  | n + 1, g, [], h, _ => by simp at h
  | n + 1, g, x :: r, h, hf => by
    have ih := bulk_sum f n (fun i => g (i + 1)) r (by simpa using h) (fun i hi => hf (i + 1) (by simpa using hi))
    have h0 := hf 0 (by simp)
    simp only [List.getElem_cons_zero] at h0
    rw [List.range_succ_eq_map]
    simp only [List.map_cons, List.map_map, List.sum_cons, Rows.uptoBulkAll] at ih ⊢
    have e : (f ∘ fun i => g (i + 1)) = (f ∘ g ∘ Nat.succ) := rfl
    rw [e] at ih
    have e2 : ((List.range n).map (f ∘ g ∘ Nat.succ)).sum = ((List.range n).map ((f ∘ g) ∘ Nat.succ)).sum := rfl
    omega
theorem wtU_sum : ∀ u : List (Nat × List UInt8), wtU u = (u.map fun t => 1 + t.2.length).sum
  | [] => rfl
  | t :: r => by simp only [wtU, List.map_cons, List.sum_cons, wtU_sum r]
theorem wts_sum : ∀ l : List Tree, wts l = (l.map Tree.wt).sum
  | [] => rfl
  | t :: r => by simp only [wts, List.map_cons, List.sum_cons, wts_sum r]

section
variable {H : Type} {enc : TypeId × Value → H} {W : World} {held : Bool}
theorem rl_open {n : Nat} {cs : List Value} {x : DataW H × List MemPlace} (h : DataW.trod enc Tryz.prog W 0 (fun _ => true) held n 22 cs = some x) : ∃ v bs, cs = [v] ∧ RL W.heap.size W v bs ∧ bs.length + 1 ≤ Rows.uptoBulk x.1 := by
  rcases open_ints Tryz.underlying22 Tryz.underlying5 cellsU8 h with ⟨rfl, -⟩ | ⟨a, len, cap, zs, rfl, _, hl, hm, hz, hx, hcell, hwz⟩
  · exact ⟨_, [], rfl, RL.nil _ _, by have := bulk_one x.1; simpa using this⟩
  · simp only [if_true] at hz
    obtain ⟨bs, hbl, hb⟩ := rb_of_ints hl hm (by omega) hcell hwz
    refine ⟨_, bs, rfl, hb.rl, ?_⟩
    rw [hx]
    have := bulk_length (lits (H := H) .u8 (zs.take len))
    simp only [lits, List.length_map, List.length_take] at this
    simp only [Rows.uptoBulk, lits]
    omega
theorem tag_open {n : Nat} {cs : List Value} {x : DataW H × List MemPlace} (h : DataW.trod enc Tryz.prog W 0 (fun _ => true) held n 79 cs = some x) :
    ∃ (k : Nat) (v : Value) (bs : List UInt8), cs = [.int .u32 (k : Int), v] ∧ k ≤ 4294967295 ∧ RL W.heap.size W v bs ∧ 1 + bs.length ≤ Rows.uptoBulk x.1 := by
  obtain ⟨xs, m, -, hxe, hl, hlen, hf⟩ := DataW.trod_struct Tryz.underlying79 h
  rw [cellsTag] at hl
  obtain ⟨y0, y1, rfl⟩ := list2 (show xs.length = 2 from hlen)
  obtain ⟨c0, c1, rfl⟩ := list2 hl
  have h0 : DataW.trod enc Tryz.prog W 0 (fun _ => true) held m 77 (List.take (Tryz.prog.cellsOf 77) (List.drop 0 [c0, c1])) = some y0 := hf 0 _ rfl
  have h1 : DataW.trod enc Tryz.prog W 0 (fun _ => true) held m 22 (List.take (Tryz.prog.cellsOf 22) (List.drop 1 [c0, c1])) = some y1 := hf 1 _ rfl
  rw [cellsU32] at h0
  rw [cellsSl] at h1
  obtain ⟨z, e0, -, hw⟩ := DataW.trod_int Tryz.underlying77 h0
  obtain ⟨v, bs, e1, hr, hbk⟩ := rl_open h1
  obtain rfl : c0 = .int .u32 z := by simpa using e0
  obtain rfl : c1 = v := by simpa using e1
  have hb := wfU32 hw
  refine ⟨z.toNat, c1, bs, by rw [Int.toNat_of_nonneg hb.1], by omega, hr, ?_⟩
  rw [hxe]
  simp only [List.map_cons, List.map_nil, Rows.uptoBulk, Rows.uptoBulkAll]
  omega
theorem add_none {b o i : Nat} {s : Option Nat} (h : s = none) : (⟨b, o, none⟩ : Addr).add i = ⟨b, o + i, none⟩ := by rw [Addr.add_lit]
theorem plain_of_cell {a : Addr} {v : Value} (h : W.cell? a = some v) : ∃ b o, a = ⟨b, o, none⟩ ∧ b < W.heap.size := by
  have hs := World.cell?_spot h
  have hb := World.block_lt_of_cell? _ _ h
  obtain ⟨b, o, s⟩ := a
  exact ⟨b, o, by cases hs; rfl, hb⟩
theorem tags_open {n : Nat} {cs : List Value} {x : DataW H × List MemPlace} (h : DataW.trod enc Tryz.prog W 0 (fun _ => true) held n 24 cs = some x) : ∃ v u, cs = [v] ∧ RepU W.heap.size W u v ∧ wtU u + 1 ≤ Rows.uptoBulk x.1 := by
  rcases DataW.trod_slice Tryz.underlying24 h with ⟨rfl, -⟩ | ⟨a, len, cap, elems, rest, m, -, rfl, hxe, -, hl, hm, hlen, hel, -, -⟩
  · exact ⟨_, [], rfl, ⟨none, 0, rfl, Nat.le_refl _, by omega, fun h => absurd rfl h⟩, by have := bulk_one x.1; simpa [wtU] using this⟩
  rw [cellsTag] at hel
  have each : ∀ i, i < len → ∃ t : Nat × Value × List UInt8, W.cells? 0 (a.add (i * 2)) 2 = some [.int .u32 (t.1 : Int), t.2.1] ∧ t.1 ≤ 4294967295 ∧ RL W.heap.size W t.2.1 t.2.2 ∧ ∀ hi : i < elems.length, 1 + t.2.2.length ≤ Rows.uptoBulk (elems[i]).1 := by
    intro i hi
    have h1 := hel i hi
    rw [List.getElem?_eq_getElem (by omega), Option.bind_eq_some_iff] at h1
    obtain ⟨c, hc, ht⟩ := h1
    obtain ⟨k, v, bs, rfl, hk, hr, hbk⟩ := tag_open ht
    exact ⟨(k, v, bs), hc, hk, hr, fun _ => hbk⟩
  haveI : Inhabited (Nat × Value × List UInt8) := ⟨(0, .slice none 0 0, [])⟩
  obtain ⟨f, hf⟩ := pick each
  refine ⟨_, (List.range len).map fun i => ((f i).1, (f i).2.2), rfl, ⟨some a, cap, by simp, by simpa using hl, by unfold maxLen at hm; omega, fun hne => ?_⟩, ?_⟩
  rotate_left
  · have h := bulk_sum (fun t : Nat × List UInt8 => 1 + t.2.length) len (fun i => ((f i).1, (f i).2.2)) elems hlen (fun i hi => (hf i (by omega)).2.2.2 hi)
    rw [wtU_sum, hxe]
    simp only [Rows.uptoBulk]
    omega
  have h0 : 0 < len := by
    rcases Nat.eq_zero_or_pos len with h | h
    · subst h; simp at hne
    · exact h
  obtain ⟨-, -, hc0⟩ := World.cells?_some (hf 0 h0).1
  have c00 := hc0 0 (by omega)
  have hp : ∃ p q, a = ⟨p, q, none⟩ ∧ p < W.heap.size := by
    obtain ⟨p, q, s⟩ := a
    have hs := World.cell?_spot c00
    have hb := World.block_lt_of_cell? _ _ c00
    simp only [Addr.add] at hs hb
    cases s with
    | none => exact ⟨p, q, rfl, by simpa [Addr.add] using hb⟩
    | some s => simp at hs
  obtain ⟨p, q, rfl, hpl⟩ := hp
  refine ⟨p, q, rfl, hpl, fun i kv hi => ?_⟩
  simp only [List.getElem?_map] at hi
  have hil : i < len := by
    rcases Nat.lt_or_ge i len with h | h
    · exact h
    · simp [List.getElem?_eq_none (by simpa using h : (List.range len).length ≤ i)] at hi
  simp only [List.getElem?_range hil, Option.map_some, Option.some.injEq] at hi
  subst hi
  obtain ⟨h1, h2, h3, -⟩ := hf i hil
  obtain ⟨-, -, hc⟩ := World.cells?_some h1
  have k0 := hc 0 (by omega)
  have k1 := hc 1 (by omega)
  simp only [Addr.add_lit, List.getElem?_cons_zero, List.getElem?_cons_succ] at k0 k1
  rw [Nat.mul_comm i 2] at k0 k1
  exact ⟨k0, h2, _, k1, h3⟩
theorem tree_open : ∀ (n : Nat) {cs : List Value} {x : DataW H × List MemPlace}, DataW.trod enc Tryz.prog W 0 (fun _ => true) held n 26 cs = some x → ∃ t, RepT W.heap.size W cs t ∧ t.wt ≤ Rows.uptoBulk x.1 := by
  intro n
  induction n using Nat.strongRecOn with
  | _ n ih =>
  intro cs x h
  obtain ⟨xs, m, hn, hxe, hl, hlen, hf⟩ := DataW.trod_struct Tryz.underlying26 h
  rw [cellsTree] at hl
  obtain ⟨y0, y1, y2, y3, y4, rfl⟩ := list5 (show xs.length = 5 from hlen)
  obtain ⟨c0, c1, c2, c3, c4, rfl⟩ := list5 hl
  have h0 : DataW.trod enc Tryz.prog W 0 (fun _ => true) held m 2 (List.take (Tryz.prog.cellsOf 2) (List.drop 0 [c0, c1, c2, c3, c4])) = some y0 := hf 0 _ rfl
  have h1 : DataW.trod enc Tryz.prog W 0 (fun _ => true) held m 22 (List.take (Tryz.prog.cellsOf 22) (List.drop 1 [c0, c1, c2, c3, c4])) = some y1 := hf 1 _ rfl
  have h2 : DataW.trod enc Tryz.prog W 0 (fun _ => true) held m 4 (List.take (Tryz.prog.cellsOf 4) (List.drop 2 [c0, c1, c2, c3, c4])) = some y2 := hf 2 _ rfl
  have h3 : DataW.trod enc Tryz.prog W 0 (fun _ => true) held m 23 (List.take (Tryz.prog.cellsOf 23) (List.drop 3 [c0, c1, c2, c3, c4])) = some y3 := hf 3 _ rfl
  have h4 : DataW.trod enc Tryz.prog W 0 (fun _ => true) held m 24 (List.take (Tryz.prog.cellsOf 24) (List.drop 4 [c0, c1, c2, c3, c4])) = some y4 := hf 4 _ rfl
  rw [cellsI64] at h0
  rw [cellsSl] at h1
  rw [cellsBo] at h2
  rw [cellsSlT] at h3
  rw [cellsSlU] at h4
  obtain ⟨z, e0, -, hw⟩ := DataW.trod_int Tryz.underlying2 h0
  obtain ⟨sv, s, e1, hs, bs1⟩ := rl_open h1
  obtain ⟨bo, e2, -⟩ := DataW.trod_bool Tryz.underlying4 h2
  obtain ⟨uv, u, e4, hu, bs4⟩ := tags_open h4
  obtain rfl : c0 = .int .i64 z := by simpa using e0
  obtain rfl : c1 = sv := by simpa using e1
  obtain rfl : c2 = .bool bo := by simpa using e2
  obtain rfl : c4 = uv := by simpa using e4
  have hb := wfI64 hw
  have hsum : ∀ z3 : Nat, z3 + 1 ≤ Rows.uptoBulk y3.1 → 1 + s.length + z3 + wtU u ≤ Rows.uptoBulk x.1 := by
    intro z3 h3
    rw [hxe]
    simp only [List.map_cons, List.map_nil, Rows.uptoBulk, Rows.uptoBulkAll]
    omega
  rcases DataW.trod_slice Tryz.underlying23 h3 with ⟨e3, -⟩ | ⟨a, len, cap, elems, rest, m', hm', e3, hxe3, -, hlc, hm, hle, hel, -, -⟩
  · obtain rfl : c3 = .slice none 0 0 := by simpa using e3
    refine ⟨.mk z s bo [] u, .mk z s bo [] u _ _ none 0 (fun _ => []) hb hs hu (by simp) (fun h => absurd rfl h) (fun i t h => by simp at h), ?_⟩
    have := hsum 0 (by have := bulk_one y3.1; omega)
    simp only [Tree.wt, wts]
    omega
  obtain rfl : c3 = .slice (some a) len cap := by simpa using e3
  rw [cellsTree] at hel
  have each : ∀ i, i < len → ∃ t : List Value × Tree, W.cells? 0 (a.add (i * 5)) 5 = some t.1 ∧ RepT W.heap.size W t.1 t.2 ∧ ∀ hi : i < elems.length, t.2.wt ≤ Rows.uptoBulk (elems[i]).1 := by
    intro i hi
    have h1 := hel i hi
    rw [List.getElem?_eq_getElem (by omega), Option.bind_eq_some_iff] at h1
    obtain ⟨c, hc, ht⟩ := h1
    obtain ⟨t, hr, hw⟩ := ih m' (by omega) ht
    exact ⟨(c, t), hc, hr, fun _ => hw⟩
  haveI : Inhabited (List Value × Tree) := ⟨([], .zero)⟩
  obtain ⟨f, hf⟩ := pick each
  have hL : ((List.range len).map fun i => (f i).2).length = len := by simp
  have hcells : ∀ i, i < len → (f i).1.length = 5 ∧ ∀ j, j < 5 → W.cell? ((a.add (i * 5)).add j) = (f i).1[j]? := fun i hi => by
    obtain ⟨-, h1, h2⟩ := World.cells?_some (hf i hi).1
    exact ⟨h1, h2⟩
  have hget : ∀ i t, ((List.range len).map fun i => (f i).2)[i]? = some t → i < len ∧ t = (f i).2 := by
    intro i t hi
    simp only [List.getElem?_map] at hi
    have hil : i < len := by
      rcases Nat.lt_or_ge i len with h | h
      · exact h
      · simp [List.getElem?_eq_none (by simpa using h : (List.range len).length ≤ i)] at hi
    simp only [List.getElem?_range hil, Option.map_some, Option.some.injEq] at hi
    exact ⟨hil, hi.symm⟩
  have R := RepT.mk (B := W.heap.size) (w := W) z s bo ((List.range len).map fun i => (f i).2) u c1 c4 (some a) cap (fun i => (f i).1) hb hs hu (by rw [hL]; exact ⟨hlc, by unfold maxLen at hm; omega⟩)
  rw [hL] at R
  refine ⟨_, R (fun hne => ?_) (fun i t hi => ?_), ?_⟩
  rotate_left 2
  · have h := bulk_sum Tree.wt len (fun i => (f i).2) elems hle (fun i hi => (hf i (by omega)).2.2 hi)
    rw [← wts_sum] at h
    have := hsum (wts ((List.range len).map fun i => (f i).2)) (by rw [hxe3]; simp only [Rows.uptoBulk]; omega)
    simp only [Tree.wt]
    omega
  · have h0 : 0 < len := by
      rcases Nat.eq_zero_or_pos len with h | h
      · subst h; simp at hne
      · exact h
    obtain ⟨hl0, hc0⟩ := hcells 0 h0
    have c00 := hc0 0 (by omega)
    rw [List.getElem?_eq_getElem (by omega)] at c00
    have hp : ∃ p q, a = ⟨p, q, none⟩ ∧ p < W.heap.size := by
      obtain ⟨p, q, s⟩ := a
      have hs := World.cell?_spot c00
      have hb := World.block_lt_of_cell? _ _ c00
      cases s with
      | none => exact ⟨p, q, rfl, by simpa [Addr.add] using hb⟩
      | some s => simp [Addr.add] at hs
    obtain ⟨p, q, rfl, hpl⟩ := hp
    refine ⟨p, q, rfl, hpl, fun i hi => ⟨(hcells i hi).1, fun j v hj => ?_⟩⟩
    have hj5 : j < 5 := by
      have h1 := (List.getElem?_eq_some_iff.1 hj).1
      have h2 := (hcells i hi).1
      omega
    have := (hcells i hi).2 j hj5
    rw [Addr.add_lit, Addr.add_lit, Nat.mul_comm i 5] at this
    exact this.trans hj
  · obtain ⟨hil, rfl⟩ := hget i t hi
    exact (hf i hil).2.1
end
theorem RepU.keys {B : Nat} {w : World} {u : List (Nat × List UInt8)} {v : Value} (h : RepU B w u v) : ∀ kv ∈ u, kv.1 ≤ 4294967295 := by
  intro kv hm
  obtain ⟨a, cap, -, -, -, hr⟩ := h
  obtain ⟨p, q, -, -, hc⟩ := hr (by intro e; rw [e] at hm; cases hm)
  obtain ⟨i, hi⟩ := List.getElem?_of_mem hm
  exact (hc i kv hi).2.1
theorem RepT.tw {B : Nat} {w : World} {c : List Value} {t : Tree} (h : RepT B w c t) : TW t := by
  induction h with
  | mk n s null l u sv uv a cap f hn hs hu hcap hl hf ih =>
    refine .mk n s null l u hu.keys fun t ht => ?_
    obtain ⟨i, hi⟩ := List.getElem?_of_mem ht
    exact ih i t hi
end Go.Proofs.YtfchajjllhndlabGreatDoor

/- What the reference writes of a tree is read, written the same; what is cut of it is not read. No program in sight. -/
namespace Go.Proofs.YtfchajjllhndlabGreatDoor

theorem treeRd {ver : Int} {flex : Bool} {s : Sch} {fs : PFs} (hok : okS ver flex s = true) (hag : agree ver flex s false 0 (-1) 0 fs = true) (t : Tree) (ht : TW t) :
    ∃ gv, rd ver flex s (pPart ver flex fs t) = some (gv, []) ∧ ap ver flex s gv = pPart ver flex fs t ∧ ∀ n, n < (pPart ver flex fs t).length → rd ver flex s ((pPart ver flex fs t).take n) = none := by
  have e : pPart ver flex fs t = ap ver flex s (gvS ver flex s (-1) fs 0 t) := (gv_ap ver flex s false 0 (-1) 0 fs hag).2 rfl 0 t
  obtain ⟨v', -, h2, h3⟩ := rd_ap ver flex s _ hok (gv_wf ver flex s false 0 (-1) 0 fs hag 0 t ht)
  rw [← e] at h2 h3
  refine ⟨v', ?_, h2, fun n hn => cut_none (Mono.rd ver flex s) h3 hn⟩
  have := h3 []
  rwa [List.append_nil] at this
end Go.Proofs.YtfchajjllhndlabGreatDoor

/- What againgen.py's texts lean on. -/
namespace Go.Proofs.YtfchajjllhndlabGreatDoor
open Go Go.RowKit

theorem RepU.upB {B B' : Nat} {w : World} {u : List (Nat × List UInt8)} {v : Value} (h : RepU B w u v) (hB : B ≤ B') : RepU B' w u v := by
  obtain ⟨a, cap, hv, h1, h2, hr⟩ := h
  refine ⟨a, cap, hv, h1, h2, fun hn => ?_⟩
  obtain ⟨p, q, ha, hp, hc⟩ := hr hn
  refine ⟨p, q, ha, by omega, fun i kv hi => ?_⟩
  obtain ⟨c0, hk, x, c1, hx⟩ := hc i kv hi
  exact ⟨c0, hk, x, c1, hx.mono hB⟩
theorem RepT.upB {B B' : Nat} {w : World} (hB : B ≤ B') {c : List Value} {t : Tree} (h : RepT B w c t) : RepT B' w c t := by
  induction h with
  | mk n s null l u sv uv a cap f hn hs hu hcap hl hf ih =>
    refine .mk n s null l u sv uv a cap f hn (hs.mono hB) (hu.upB hB) hcap (fun hne => ?_) ih
    obtain ⟨p, q, ha, hp, h⟩ := hl hne
    exact ⟨p, q, ha, by omega, h⟩
theorem RB.cut {O : List Nat} {w : World} {a : Option Addr} {n cap k : Nat} {bs : List UInt8} (h : RB O w (.slice a n cap) bs) (hk : k ≤ bs.length) : RB O w (.slice a k cap) (bs.take k) := by
  obtain ⟨a', cap', hv, h1, h2, h3⟩ := h
  cases hv
  have hl : (bs.take k).length = k := by rw [List.length_take]; omega
  refine ⟨a, cap, by rw [hl], by omega, h2, fun hne => ?_⟩
  obtain ⟨b, o, ha, hb, hc⟩ := h3 (by intro e; subst e; simp at hne)
  refine ⟨b, o, ha, hb, fun i u hi => hc i u ?_⟩
  rw [List.getElem?_take] at hi
  split at hi
  · exact hi
  · cases hi
theorem RB.drew {O : List Nat} {w : World} {v : Value} {bs : List UInt8} (h : RB O w v bs) : RB O w.drew v bs := h
end Go.Proofs.YtfchajjllhndlabGreatDoor

/- A part within a part. -/
namespace Go.Proofs.YtfchajjllhndlabGreatDoor
open Go Go.RowKit
set_option linter.unusedVariables false

section
variable {RT : RTags} {P : Program} {N nt gE : Nat} {E : Value} {K : Slots} {lo t : Nat} {ver : Int} {flex : Bool}
/-- 'v := &s.F; v.Default(); s := v; ..'. -/
theorem rdF_part {s bp rs v s2 t1 t2 t3 FD Tm kf off r1 r2 r3 y1 y2 y3 y4 y5 y6 y7 y8 lo' t' : Nat} {q1 q2 q3 q4 q5 q6 q7 q8 : String} {g1 g2 g3 g4 g5 g6 g7 g8 : Array Edge} {at_ : Array TypeId} {c : Code} {sch : Sch}
    (hk : KOK N lo t ((bp, .int .i64 0) :: K)) (hT : FieldAt P Tm kf off) (he : Enters P FD) (hDef : DefC P FD sch) (hD : Dims N nt lo t) (hD' : Dims N nt lo' t')
    (hd : t ≤ t1 ∧ t1 + 2 < nt ∧ t ≤ t2 ∧ t2 + 1 < nt ∧ t ≤ t3 ∧ t3 < nt ∧ lo ≤ v ∧ v < N ∧ lo ≤ s2 ∧ s2 < N ∧ lo ≤ lo' ∧ t ≤ t' ∧ v ≠ s2) (h : RdS RT P N nt gE E ver flex K lo' t' s2 bp rs c 0 sch) :
    RdF RT P N nt gE E ver flex K lo t s bp rs ((Code.region r1 #[⟨some t1, .move (.tmp s), y1, q1, g1, none⟩, ⟨some (t1 + 1), .nilCheck (.tmp t1), y2, q2, g2, none⟩, ⟨some (t1 + 2), .fieldAddr Tm (.tmp (t1 + 1)) kf, y3, q3, g3, none⟩, ⟨some v, .assign (.tmp (t1 + 2)), y4, q4, g4, none⟩] false).seq
      ((Code.region r2 #[⟨some t2, .move (.tmp v), y5, q5, g5, none⟩, ⟨some (t2 + 1), .call { callee := .value (.func FD), args := #[.tmp t2], argTypes := at_ }, y6, q6, g6, none⟩] false).seq
      ((Code.region r3 #[⟨some t3, .move (.tmp v), y7, q7, g7, none⟩, ⟨some s2, .assign (.tmp t3), y8, q8, g8, none⟩] false).seq c))) off sch := by
  intro O rb b o T a w cs st Q hN hh hst hF hq hr
  obtain ⟨d1, d2, d3, d4, d5, d6, d7, d8, d9, d10, d11, d12, d13⟩ := hd
  have x1 := hD.dOne; have x2 := hD.dLo; have x3 := hD.dT; have x4 := hD.dN
  have hk' : ∀ x, KOK N lo t ((bp, x) :: K) := fun x q hq => by
    simp only [List.mem_cons] at hq
    rcases hq with rfl | hq
    · exact hk (bp, .int .i64 0) (by simp)
    · exact hk q (by simp [hq])
  refine wp_seq (wp_reg ?_)
  refine wl_move hh.head ?_
  refine wl_nilCheck (ad := ⟨b, o, none⟩) (aget_put_same _ _ _ (by omega)) ?_
  refine wl_fieldAddr hT (aget_put_same _ _ _ (by simp only [size_put]; omega)) ?_
  rw [Addr.add_lit]
  refine wl_assign (aget_put_same _ _ _ (by simp only [size_put]; omega)) ?_
  refine wpList_nil ?_
  have hf1 : Fr N lo t nt a ((((a.put (some t1) (.pointer (some ⟨b, o, none⟩))).put (some (t1 + 1)) (.pointer (some ⟨b, o, none⟩))).put (some (t1 + 2)) (.pointer (some ⟨b, o + off, none⟩))).put (some v) (.pointer (some ⟨b, o + off, none⟩))) := ((((Fr.refl N lo t nt a).put _ _ (by omega)).put _ _ (by omega)).put _ _ (by omega)).put _ _ (by omega)
  have hv1 : aget ((((a.put (some t1) (.pointer (some ⟨b, o, none⟩))).put (some (t1 + 1)) (.pointer (some ⟨b, o, none⟩))).put (some (t1 + 2)) (.pointer (some ⟨b, o + off, none⟩))).put (some v) (.pointer (some ⟨b, o + off, none⟩))) v = .pointer (some ⟨b, o + off, none⟩) := aget_put_same _ _ _ (by simp only [size_put]; omega)
  generalize ((((a.put (some t1) (.pointer (some ⟨b, o, none⟩))).put (some (t1 + 1)) (.pointer (some ⟨b, o, none⟩))).put (some (t1 + 2)) (.pointer (some ⟨b, o + off, none⟩))).put (some v) (.pointer (some ⟨b, o + off, none⟩))) = a1 at *
  have hN1 := hf1.size.trans hN
  simp only [Exit.then]
  refine wp_seq (wp_reg ?_)
  refine wl_move hv1 ?_
  refine wl_call (R := fun en w' => ∃ cs', en = .returned (.tuple #[]) ∧ Blk w' b cs' T ∧ SameOut cs cs' (o + off) (o + off + top sch) ∧ Keeps [b] w w' ∧ Fresh cs' (o + off) sch) he ?_ ?_
  · simp only [List.map_toArray, List.map_cons, List.map_nil, aget_eval]
    rw [aget_put_same _ _ _ (by omega)]
    exact hDef w b (o + off) T cs hst.blk hF
  rintro en w2 ⟨cs2, rfl, hb2, hs2, hk2, hF2⟩
  refine ⟨_, rfl, wpList_nil ?_⟩
  have hst2 := hst.upd hb2 hk2
  have hf2 : Fr N lo t nt a1 ((a1.put (some t2) (.pointer (some ⟨b, o + off, none⟩))).put (some (t2 + 1)) (.tuple #[])) := ((Fr.refl N lo t nt a1).put _ _ (by omega)).put _ _ (by omega)
  have hv2 : aget ((a1.put (some t2) (.pointer (some ⟨b, o + off, none⟩))).put (some (t2 + 1)) (.tuple #[])) v = .pointer (some ⟨b, o + off, none⟩) := by rw [aget_put_other _ _ _ v (by omega), aget_put_other _ _ _ v (by omega)]; exact hv1
  generalize ((a1.put (some t2) (.pointer (some ⟨b, o + off, none⟩))).put (some (t2 + 1)) (.tuple #[])) = a2 at *
  have hN2 := hf2.size.trans hN1
  simp only [Exit.then]
  refine wp_seq (wp_reg ?_)
  refine wl_move hv2 ?_
  refine wl_assign (aget_put_same _ _ _ (by omega)) ?_
  refine wpList_nil ?_
  have hf3 : Fr N lo t nt a2 ((a2.put (some t3) (.pointer (some ⟨b, o + off, none⟩))).put (some s2) (.pointer (some ⟨b, o + off, none⟩))) := ((Fr.refl N lo t nt a2).put _ _ (by omega)).put _ _ (by omega)
  have hs3 : aget ((a2.put (some t3) (.pointer (some ⟨b, o + off, none⟩))).put (some s2) (.pointer (some ⟨b, o + off, none⟩))) s2 = .pointer (some ⟨b, o + off, none⟩) := aget_put_same _ _ _ (by simp only [size_put]; omega)
  generalize ((a2.put (some t3) (.pointer (some ⟨b, o + off, none⟩))).put (some s2) (.pointer (some ⟨b, o + off, none⟩))) = a3 at *
  have hf03 := (hf1.trans hf2).trans hf3
  have hh3 : Holds ((bp, .pointer (some ⟨rb, 0, none⟩)) :: K) a3 := hh.tail.frR (hk' _) hD hf03
  simp only [Exit.then]
  have hkk : Keeps [rb, b] w w2 := hk2.mono (by simp)
  refine h O rb b (o + off) T a3 w2 cs2 st Q (hf03.size.trans hN) (hh3.cons hs3) hst2 hF2 (fun a4 w4 cs4 k1 k2 k3 k4 k5 => ?_) (fun a4 w4 k1 k2 k3 k4 k5 => hr a4 w4 k1 k2 (k3.trans hf03.defers) k4 (hkk.trans k5))
  exact hq a4 w4 cs4 k1 (hf03.trans (k2.mono d11 d12)) (hkk.trans k3) (hs2.trans k4 (by omega) (by omega)) k5
/-- A Default of nothing within a part: '{ v := &v.F; _ = v }'. -/
theorem DefW.sub {sch : Sch} {n i t1 v T' k r y1 y2 y3 y4 : Nat} {q1 q2 q3 q4 : String} {g1 g2 g3 g4 : Array Edge} (hT : FieldAt P T' k i) (hd : 0 < t1 ∧ t1 + 2 < nt ∧ 0 < v) :
    DefW P nt n sch (.region r #[⟨some t1, .move (.tmp 0), y1, q1, g1, none⟩, ⟨some (t1 + 1), .nilCheck (.tmp t1), y2, q2, g2, none⟩, ⟨some (t1 + 2), .fieldAddr T' (.tmp (t1 + 1)) k, y3, q3, g3, none⟩, ⟨some v, .assign (.tmp (t1 + 2)), y4, q4, g4, none⟩] false) := by
  intro w b o T cs a Q hN hdf h0 hB hF hq
  obtain ⟨d1, d2, d3⟩ := hd
  refine wp_reg ?_
  refine wl_move h0 ?_
  refine wl_nilCheck (aget_put_same _ _ _ (by omega)) ?_
  refine wl_fieldAddr hT (aget_put_same _ _ _ (by simp only [size_put]; omega)) ?_
  refine wl_assign rfl ?_
  refine wpList_nil (hq _ _ cs (by simp only [size_put, hN]) (by simp only [defers_put, hdf]) ?_ hB (SameOut.refl _ _ _) (Keeps.refl _ _) hF)
  rw [aget_put_other _ _ _ _ (by omega), aget_put_other _ _ _ _ (by omega), aget_put_other _ _ _ _ (by omega), aget_put_other _ _ _ _ (by omega)]; exact h0
theorem DefW.look {sch : Sch} {n t1 v r y1 : Nat} {q1 : String} {g1 : Array Edge} (hd : 0 < t1 ∧ t1 < nt) : DefW P nt n sch (.region r #[⟨some t1, .move (.tmp v), y1, q1, g1, none⟩] false) := by
  intro w b o T cs a Q hN hdf h0 hB hF hq
  obtain ⟨d1, d2⟩ := hd
  refine wp_reg ?_
  refine wl_move rfl ?_
  refine wpList_nil (hq _ _ cs (by simp only [size_put, hN]) (by simp only [defers_put, hdf]) ?_ hB (SameOut.refl _ _ _) (Keeps.refl _ _) hF)
  rw [aget_put_other _ _ _ _ (by omega)]; exact h0
end
end Go.Proofs.YtfchajjllhndlabGreatDoor

/- A part that may be null: reading. -/
namespace Go.Proofs.YtfchajjllhndlabGreatDoor
open Go Go.RowKit
set_option linter.unusedVariables false

section
variable {RT : RTags} {P : Program} {N nt gE : Nat} {E : Value} {K : Slots} {lo t : Nat} {ver : Int} {flex : Bool}
/-- A call that is made only where the test ahead of it says so. -/
theorem wl_call_on {w : World} {ops : Array Oper} {rest : List Oper} {a : Act} {Q : Exit → Act → World → Prop} {d : Nat} {ty : TypeId} {pos : String} {af : Array Edge} {gd : Option (Nat × Bool)} {f : Nat} {args : Array Operand} {at_ : Array TypeId} {R : Ending → World → Prop} (he : Enters P f) (hc : Calls P f (args.map a.eval) w R)
    (hw : Region.wanted (⟨some d, .call { callee := .value (.func f), args := args, argTypes := at_ }, ty, pos, af, gd⟩ : Oper) (yielded ops a.tmps) = true)
    (h : ∀ e w', R e w' → ∃ v, e = .returned v ∧ wpList P ops Q rest (a.put (some d) v) w') : wpList P ops Q (⟨some d, .call { callee := .value (.func f), args := args, argTypes := at_ }, ty, pos, af, gd⟩ :: rest) a w := by
  refine wpList_step fun K hK => ?_
  rw [if_pos hw]
  have hr : (execOp a.eval ⟨some d, .call { callee := .value (.func f), args := args, argTypes := at_ }, ty, pos, af, gd⟩).run P w = .ok (.enter f (args.map a.eval)) w := by
    simp [execOp, resolve, Act.eval, Deferred.ofValue, invoke, he (args.map a.eval) w]
  unfold Oper.wp
  rw [hr]
  refine hc.mono fun e w' hR => ?_
  obtain ⟨v, rfl, hw⟩ := h e w' hR
  exact hK _ _ hw
/-- 'present != -1 && b.Ok()'. -/
theorem reg_present {a : Act} {w : World} {Q : Exit → Act → World → Prop} {O : List Nat} {rb : Nat} {st : Option (List UInt8)} {u bp FO t1 r x0 ty1 ty2 ty3 ty4 ty5 T U : Nat} {p1 p2 p3 p4 p5 : String} {e1 e2 e3 e4 e5 : Array Edge} {at_ : Array TypeId} {n m : Int} (heO : Enters P FO) (hO : OkC P FO)
    (hN : a.tmps.size = nt) (hs : aget a u = .int .i8 n) (hb : aget a bp = .pointer (some ⟨rb, 0, none⟩)) (hr : Rdr O w rb st) (hd : N ≤ t ∧ t ≤ t1 ∧ t1 + 4 < nt ∧ lo ≤ N ∧ bp ≠ t1 ∧ bp ≠ t1 + 1 ∧ bp ≠ t1 + 2)
    (h : ∀ a', Fr N lo t x0 a a' → aget a' (t1 + 4) = .bool (decide (n ≠ m) && st.isSome) → Q .normal a' w) :
    (Code.region r #[⟨some t1, .move (.tmp u), ty1, p1, e1, none⟩, ⟨some (t1 + 1), .binOp .neq T (.tmp t1) (.const (.int .i8 m)) U, ty2, p2, e2, none⟩, ⟨some (t1 + 2), .move (.tmp (t1 + 1)), ty3, p3, e3, none⟩,
      ⟨some (t1 + 3), .call { callee := .value (.func FO), args := #[.tmp bp], argTypes := at_ }, ty4, p4, e4, some (2, true)⟩, ⟨some (t1 + 4), .pick (.tmp (t1 + 2)) (.tmp (t1 + 3)) (.const (.bool false)), ty5, p5, e5, none⟩] false).wp P Q a w := by
  obtain ⟨h1, h2, h3, h4, h5, h6, h7⟩ := hd
  refine wp_reg ?_
  refine wl_move hs ?_
  refine wl_bin (r := .bool (decide (n ≠ m))) (aget_put_same _ _ _ (by omega)) (eqGuard_at_int ..) (by simp [binOp, Op.intCmp, bne, BEq.beq]) ?_
  refine wl_move (aget_put_same _ _ _ (by simp only [size_put]; omega)) ?_
  have hy : ∀ (A : Act) (b : Bool) (l : Array Oper) (o : Oper), l[2]? = some o → o.dst = some (t1 + 2) → aget A (t1 + 2) = .bool b → t1 + 2 < A.tmps.size → yielded l A.tmps 2 = some b := by
    intro A b l o hl ho hA hlt
    unfold aget at hA
    rw [Array.getD_eq_getD_getElem?, Array.getElem?_eq_getElem hlt] at hA
    simp at hA
    simp [yielded, hl, ho, hlt, hA]
  by_cases hn : n ≠ m
  · rw [decide_eq_true hn]
    refine wl_call_on (R := fun e w' => e = .returned (.bool st.isSome) ∧ w = w') heO ?_ (by
      simp only [Region.wanted]
      rw [hy _ true _ _ rfl rfl (aget_put_same _ _ _ (by simp only [size_put]; omega)) (by simp only [size_put]; omega)]
      rfl) ?_
    · simp only [List.map_toArray, List.map_cons, List.map_nil, aget_eval]
      rw [aget_put_other _ _ _ _ (by omega), aget_put_other _ _ _ _ (by omega), aget_put_other _ _ _ _ (by omega), hb]
      exact hO O rb w st hr
    rintro e w' ⟨rfl, rfl⟩
    refine ⟨_, rfl, ?_⟩
    refine wl_value (v := .bool (true && st.isSome)) (w' := w) rfl ?_ ?_
    · have e2 : ∀ A : Act, aget A (t1 + 2) = .bool true → aget A (t1 + 3) = .bool st.isSome → (execOp A.eval ⟨some (t1 + 4), .pick (.tmp (t1 + 2)) (.tmp (t1 + 3)) (.const (.bool false)), ty5, p5, e5, none⟩).run P w = .ok (.value (.bool (true && st.isSome))) w := by
        intro A hA hB
        simp [execOp, aget_eval, hA, hB, asBool]
      refine e2 _ ?_ (aget_put_same _ _ _ (by simp only [size_put]; omega))
      rw [aget_put_other _ _ _ _ (by omega)]
      exact aget_put_same _ _ _ (by simp only [size_put]; omega)
    · exact wpList_nil (h _ ((((((Fr.refl N lo t x0 a).put _ _ (by omega)).put _ _ (by omega)).put _ _ (by omega)).put _ _ (by omega)).put _ _ (by omega)) (by rw [decide_eq_true hn]; exact aget_put_same _ _ _ (by simp only [size_put]; omega)))
  · rw [decide_eq_false hn]
    refine wpList_step fun K hK => ?_
    rw [if_neg (by
      simp only [Region.wanted]
      rw [hy _ false _ _ rfl rfl (aget_put_same _ _ _ (by simp only [size_put]; omega)) (by simp only [size_put]; omega)]
      decide)]
    refine hK _ _ ?_
    refine wl_value (v := .bool (false && st.isSome)) (w' := w) rfl ?_ ?_
    · have e2 : ∀ A : Act, aget A (t1 + 2) = .bool false → (execOp A.eval ⟨some (t1 + 4), .pick (.tmp (t1 + 2)) (.tmp (t1 + 3)) (.const (.bool false)), ty5, p5, e5, none⟩).run P w = .ok (.value (.bool (false && st.isSome))) w := by
        intro A hA
        have e3 : A.eval (.const (.bool false)) = .bool false := rfl
        simp [execOp, aget_eval, hA, asBool, e3]
      refine e2 _ ?_
      rw [aget_put_other _ _ _ _ (by omega)]
      exact aget_put_same _ _ _ (by simp only [size_put]; omega)
    · exact wpList_nil (h _ ((((((Fr.refl N lo t x0 a).put _ _ (by omega)).put _ _ (by omega)).put _ _ (by omega)).put _ _ (by omega)).put _ _ (by omega)) (by rw [decide_eq_false hn]; exact aget_put_same _ _ _ (by simp only [size_put]; omega)))
/-- What is known of the type of a part that stands alone. -/
def NewT (P : Program) (U : Nat) (sch : Sch) : Prop := ∃ (i : TypeInfo) (z : Value), P.info? U = some i ∧ i.zero = some z ∧ Fresh z.cells.toList 0 sch
theorem run_new {U : Nat} {sch : Sch} (h : NewT P U sch) : ∃ z : Array Value, Fresh z.toList 0 sch ∧ ∀ w : World, (Instr.alloc U true (.tuple #[])).run P w = .ok (.pointer (some ⟨w.heap.size, 0, none⟩)) (w.alloc (.cells z U)) := by
  obtain ⟨i, z, hi, hz, hf⟩ := h
  exact ⟨z.cells, hf, fun w => by simp [Instr.alloc, zeroValue, typeInfo, hi, hz, newVar, newRow]⟩
/-- 'if present := b.Int8(); present != -1 && b.Ok() { s.F = new(T); v := s.F; v.Default(); s := v; .. }'. -/
theorem rdF_opt {s bp rs pv v s2 t0 t1 t2 t3 t4 t5 FI FO FD Tm kf U1 U off r0 r1 r2 r3 r4 r5 J1 J2 y1 y2 y3 y4 y5 y6 y7 y8 y9 y10 y11 y12 y13 y14 y15 y16 y17 y18 y19 y20 y21 lo' t' : Nat} {q1 q2 q3 q4 q5 q6 q7 q8 q9 q10 q11 q12 q13 q14 q15 q16 q17 q18 q19 q20 q21 : String} {g1 g2 g3 g4 g5 g6 g7 g8 g9 g10 g11 g12 g13 g14 g15 g16 g17 g18 g19 g20 g21 : Array Edge} {at1 at2 at3 : Array TypeId} {c : Code} {off2 : Nat} {vl : Int} {vh : Option Int} {f2 rest2 : Sch}
    (hRT : RTMono RT) (hk : KOK N lo t ((s, .int .i64 0) :: (bp, .int .i64 0) :: K)) (heI : Enters P FI) (hI : RdC P FI (rdInt 1 128) (fun _ _ v n => v = .int .i8 n) (fun v => v = .int .i8 0)) (heO : Enters P FO) (hO : OkC P FO) (hT : FieldAt P Tm kf off) (hU : OneCell P U) (hU1 : NewT P U1 (.cons off2 vl vh f2 rest2)) (he : Enters P FD) (hDef : DefC P FD (.cons off2 vl vh f2 rest2)) (hD : Dims N nt lo t) (hD' : Dims N nt lo' t')
    (hd : t ≤ t0 ∧ t0 < nt ∧ lo ≤ pv ∧ pv < N ∧ t ≤ t1 ∧ t1 + 4 < nt ∧ t ≤ t2 ∧ t2 + 3 < nt ∧ t ≤ t3 ∧ t3 + 3 < nt ∧ t ≤ t4 ∧ t4 + 1 < nt ∧ t ≤ t5 ∧ t5 < nt ∧ lo ≤ v ∧ v < N ∧ lo ≤ s2 ∧ s2 < N ∧ lo ≤ lo' ∧ t ≤ t' ∧ v ≠ s2 ∧ bp < lo) (h : RdS RT P N nt gE E ver flex K lo' t' s2 bp rs c 0 (.cons off2 vl vh f2 rest2)) :
    RdF RT P N nt gE E ver flex K lo t s bp rs ((Code.region r0 #[⟨some t0, .call { callee := .value (.func FI), args := #[.tmp bp], argTypes := at1 }, y1, q1, g1, none⟩, ⟨some pv, .assign (.tmp t0), y2, q2, g2, none⟩] false).seq
      ((Code.region r1 #[⟨some t1, .move (.tmp pv), y3, q3, g3, none⟩, ⟨some (t1 + 1), .binOp .neq J1 (.tmp t1) (.const (.int .i8 (-1))) J2, y4, q4, g4, none⟩, ⟨some (t1 + 2), .move (.tmp (t1 + 1)), y5, q5, g5, none⟩,
        ⟨some (t1 + 3), .call { callee := .value (.func FO), args := #[.tmp bp], argTypes := at2 }, y6, q6, g6, some (2, true)⟩, ⟨some (t1 + 4), .pick (.tmp (t1 + 2)) (.tmp (t1 + 3)) (.const (.bool false)), y7, q7, g7, none⟩] false).seq
      (.cond (.tmp (t1 + 4))
        ((Code.region r2 #[⟨some t2, .move (.tmp s), y8, q8, g8, none⟩, ⟨some (t2 + 1), .alloc U1, y9, q9, g9, none⟩, ⟨some (t2 + 2), .nilCheck (.tmp t2), y10, q10, g10, none⟩, ⟨some (t2 + 3), .fieldAddr Tm (.tmp (t2 + 2)) kf, y11, q11, g11, none⟩, ⟨none, .store U (.tmp (t2 + 3)) (.tmp (t2 + 1)), y12, q12, g12, none⟩] false).seq
        ((Code.region r3 #[⟨some t3, .move (.tmp s), y13, q13, g13, none⟩, ⟨some (t3 + 1), .nilCheck (.tmp t3), y14, q14, g14, none⟩, ⟨some (t3 + 2), .fieldAddr Tm (.tmp (t3 + 1)) kf, y15, q15, g15, none⟩, ⟨some (t3 + 3), .load U (.tmp (t3 + 2)), y16, q16, g16, none⟩, ⟨some v, .assign (.tmp (t3 + 3)), y17, q17, g17, none⟩] false).seq
        ((Code.region r4 #[⟨some t4, .move (.tmp v), y18, q18, g18, none⟩, ⟨some (t4 + 1), .call { callee := .value (.func FD), args := #[.tmp t4], argTypes := at3 }, y19, q19, g19, none⟩] false).seq
        ((Code.region r5 #[⟨some t5, .move (.tmp v), y20, q20, g20, none⟩, ⟨some s2, .assign (.tmp t5), y21, q21, g21, none⟩] false).seq c)))) .skip))) off (.opt (.cons off2 vl vh f2 rest2)) := by
  intro O rb b o T a w cs st Q hN hh hst hF hq hr
  generalize hsch : Sch.cons off2 vl vh f2 rest2 = sch at *
  obtain ⟨d1, d2, d3, d4, d5, d6, d7, d8, d9, d10, d11, d12, d13, d14, d15, d16, d17, d18, d19, d20, d21, d22⟩ := hd
  have x1 := hD.dOne; have x2 := hD.dLo; have x3 := hD.dT; have x4 := hD.dN
  have hc0 : cs[o + off]? = some (.pointer none) := hF
  have hlt : o + off < cs.length := (List.getElem?_eq_some_iff.1 hc0).1
  have tot : st.bind (rd ver flex (.opt sch)) = (st.bind (rdInt 1 128)).bind fun q => if q.1 = -1 then some (.null, q.2) else rd ver flex sch q.2 := by
    change st.bind ((rdInt 1 128).bind fun n => if n = -1 then Pr.pure .null else rd ver flex sch) = _
    rw [bind_st]
    congr 1
    funext q
    split <;> rfl
  refine wp_seq (wp_reg ?_)
  refine wl_call (R := RdPost (rdInt 1 128) (fun _ _ v n => v = .int .i8 n) (fun v => v = .int .i8 0) O rb w st) heI ?_ ?_
  · simp only [List.map_toArray, List.map_cons, List.map_nil, aget_eval]
    rw [hh.tail.head]
    exact hI O rb w st hst.rbO hst.lt hst.rdr
  rintro en w1 ⟨x, rfl, hr1, hk1, hbad, hgood⟩
  refine ⟨_, rfl, ?_⟩
  obtain ⟨n, rfl, hn⟩ : ∃ n : Int, x = .int .i8 n ∧ ∀ m r, st.bind (rdInt 1 128) = some (m, r) → m = n := by
    cases hx : st.bind (rdInt 1 128) with
    | none => exact ⟨0, hbad hx, fun m r h => by cases h⟩
    | some q => exact ⟨q.1, hgood q.1 q.2 hx, fun m r h => by cases h; rfl⟩
  refine wl_assign (aget_put_same _ _ _ (by omega)) ?_
  refine wpList_nil ?_
  have hf1 : Fr N lo t nt a ((a.put (some t0) (.int .i8 n)).put (some pv) (.int .i8 n)) := ((Fr.refl N lo t nt a).put _ _ (by omega)).put _ _ (by omega)
  have hp1 : aget ((a.put (some t0) (.int .i8 n)).put (some pv) (.int .i8 n)) pv = .int .i8 n := aget_put_same _ _ _ (by simp only [size_put]; omega)
  generalize ((a.put (some t0) (.int .i8 n)).put (some pv) (.int .i8 n)) = a1 at *
  have hN1 := hf1.size.trans hN
  have hh1 := hh.frR (kokR hk) hD hf1
  have hst1 := hst.call hr1 hk1
  simp only [Exit.then]
  refine wp_seq (reg_present (x0 := nt) (lo := lo) (N := N) (t := t) (m := -1) heO hO hN1 hp1 hh1.tail.head hst1.rdr ⟨x3, d5, d6, x2, by omega, by omega, by omega⟩ fun a2 hf2 hx2 => ?_)
  have hN2 := hf2.size.trans hN1
  have hf02 := hf1.trans hf2
  have hh2 := hh.frR (kokR hk) hD hf02
  by_cases hb : n = -1 ∨ st.bind (rdInt 1 128) = none
  · have hfalse : (decide (n ≠ -1) && ((st.bind (rdInt 1 128)).map (·.2)).isSome) = false := by
      rcases hb with rfl | hb
      · rfl
      · rw [hb]; simp
    rw [hfalse] at hx2
    refine wp_cond_false hx2 (wp_skip (hq a2 w1 cs ?_ hf02 (keeps_rb hk1) (SameOut.refl _ _ _) fun gv r hv => ?_))
    · rw [tot]
      cases hx : st.bind (rdInt 1 128) with
      | none => rw [hx] at hst1; exact hst1
      | some q =>
        rw [hx] at hst1
        have h1 : q.1 = -1 := by
          rcases hb with rfl | hb
          · exact hn q.1 q.2 hx
          · rw [hx] at hb; cases hb
        simp only [Option.bind_some, h1, if_true]
        exact hst1
    · rw [tot] at hv
      cases hx : st.bind (rdInt 1 128) with
      | none => rw [hx] at hv; cases hv
      | some q =>
        rw [hx] at hv
        have h1 : q.1 = -1 := by
          rcases hb with rfl | hb
          · exact hn q.1 q.2 hx
          · rw [hx] at hb; cases hb
        simp only [Option.bind_some, h1, if_true, Option.some.injEq, Prod.mk.injEq] at hv
        obtain ⟨rfl, rfl⟩ := hv
        exact hst1.blk.cell_some hc0
  · have hne : n ≠ -1 := fun h => hb (.inl h)
    obtain ⟨q, hqx⟩ : ∃ q, st.bind (rdInt 1 128) = some q := by
      cases hx : st.bind (rdInt 1 128) with
      | none => exact absurd (.inr hx) hb
      | some q => exact ⟨q, rfl⟩
    have hq1 : q.1 = n := hn q.1 q.2 hqx
    rw [hqx] at hst1 hx2 tot
    have tot2 : st.bind (rd ver flex (.opt sch)) = (some q.2).bind (rd ver flex sch) := by
      rw [tot]
      simp only [Option.bind_some, hq1, if_neg hne]
    have htrue : (decide (n ≠ -1) && ((some q).map (·.2)).isSome) = true := by simp [hne]
    rw [htrue] at hx2
    change RSt gE E O w1 rb b cs T (some q.2) at hst1
    refine wp_cond_true hx2 ?_
    obtain ⟨z, hzf, hza⟩ := run_new hU1
    refine wp_seq (wp_reg ?_)
    refine wl_move hh2.head ?_
    refine wl_value (v := .pointer (some ⟨w1.heap.size, 0, none⟩)) (w' := w1.alloc (.cells z U1)) rfl (by simp [execOp, hza]) ?_
    refine wl_nilCheck (ad := ⟨b, o, none⟩) (by rw [aget_put_other _ _ _ t2 (by omega)]; exact aget_put_same _ _ _ (by omega)) ?_
    refine wl_fieldAddr hT (aget_put_same _ _ _ (by simp only [size_put]; omega)) ?_
    rw [Addr.add_lit]
    have hk2 : Keeps [] w1 (w1.alloc (.cells z U1)) := (Keeps.refl [] w1).alloc _
    have hst2 := hst1.upd (hst1.blk.keeps hk2 (by simp)) (hk2.mono (by simp))
    have hbg : b ≠ w1.heap.size := by have := hst1.lt b hst1.bO; omega
    have hrg : rb ≠ w1.heap.size := by have := hst1.lt rb hst1.rbO; omega
    refine wl_store (w' := (w1.alloc (.cells z U1)).setCell ⟨b, o + off, none⟩ (.pointer (some ⟨w1.heap.size, 0, none⟩))) ?_ ?_
    · rw [aget_eval, aget_eval, aget_put_same _ _ _ (by simp only [size_put]; omega), aget_put_other _ _ _ (t2 + 1) (by omega), aget_put_other _ _ _ (t2 + 1) (by omega), aget_put_same _ _ _ (by simp only [size_put]; omega)]
      exact run_store_blk hU hst2.blk hlt ⟨rfl, rfl⟩
    refine wpList_nil ?_
    have hst3 := hst2.store (o + off) (.pointer (some ⟨w1.heap.size, 0, none⟩))
    have hzb : Blk ((w1.alloc (.cells z U1)).setCell ⟨b, o + off, none⟩ (.pointer (some ⟨w1.heap.size, 0, none⟩))) w1.heap.size z.toList U1 := by
      have h1 := Blk.alloc_new w1 z.toList U1
      rw [Array.toArray_toList] at h1
      exact h1.set_other (fun h => hbg h.symm) _ _
    have hk3 : Keeps [b] w1 ((w1.alloc (.cells z U1)).setCell ⟨b, o + off, none⟩ (.pointer (some ⟨w1.heap.size, 0, none⟩))) := (hk2.mono (O' := [b]) (by simp)).setCell (p := ⟨b, o + off, none⟩) (List.mem_singleton.2 rfl) _
    have hsz3 : w1.heap.size < ((w1.alloc (.cells z U1)).setCell ⟨b, o + off, none⟩ (.pointer (some ⟨w1.heap.size, 0, none⟩))).heap.size := hzb.lt
    generalize ((w1.alloc (.cells z U1)).setCell ⟨b, o + off, none⟩ (.pointer (some ⟨w1.heap.size, 0, none⟩))) = w3 at *
    have hf3 : Fr N lo t nt a2 ((((a2.put (some t2) (.pointer (some ⟨b, o, none⟩))).put (some (t2 + 1)) (.pointer (some ⟨w1.heap.size, 0, none⟩))).put (some (t2 + 2)) (.pointer (some ⟨b, o, none⟩))).put (some (t2 + 3)) (.pointer (some ⟨b, o + off, none⟩))) := ((((Fr.refl N lo t nt a2).put _ _ (by omega)).put _ _ (by omega)).put _ _ (by omega)).put _ _ (by omega)
    generalize ((((a2.put (some t2) (.pointer (some ⟨b, o, none⟩))).put (some (t2 + 1)) (.pointer (some ⟨w1.heap.size, 0, none⟩))).put (some (t2 + 2)) (.pointer (some ⟨b, o, none⟩))).put (some (t2 + 3)) (.pointer (some ⟨b, o + off, none⟩))) = a3 at *
    have hN3 := hf3.size.trans hN2
    have hf03 := hf02.trans hf3
    have hh3 := hh.frR (kokR hk) hD hf03
    have hcell3 : w3.cell? ⟨b, o + off, none⟩ = some (.pointer (some ⟨w1.heap.size, 0, none⟩)) := hst3.blk.cell_some (by rw [List.getElem?_set_self hlt])
    simp only [Exit.then]
    refine wp_seq (reg_load (x0 := nt) (lo := lo) hT hU hN3 hh3.head (by rw [Addr.add_lit]; exact hcell3) ⟨x3, d9, d10, d15, d16⟩ fun a4 hf4 hx4 => ?_)
    have hN4 := hf4.size.trans hN3
    have hf04 := hf03.trans hf4
    -- the new part
    have hopen : RSt gE E (w1.heap.size :: O) w3 rb w1.heap.size z.toList U1 (some q.2) := by
      refine ⟨(hst1.rdr.open (Nat.le_refl _)).other (O' := [b]) hk3 (by simpa using fun e => hst1.ne e.symm) (by simpa using .inr hst1.bO), hzb, List.mem_cons_of_mem _ hst1.rbO, List.mem_cons_self .., fun e => hrg e.symm, ?_, hst3.glob, ?_⟩
      · intro k hk'
        rcases List.mem_cons.1 hk' with rfl | hk'
        · exact hsz3
        · exact Nat.lt_of_lt_of_le (hst1.lt k hk') hk3.size
      · intro hx
        rcases List.mem_cons.1 hx with hx | hx
        · have := World.block_lt_of_cell? w1 _ hst1.glob
          simp at this
          omega
        · exact hst1.gO hx
    refine wp_seq (wp_reg ?_)
    refine wl_move hx4 ?_
    refine wl_call (R := fun en w' => ∃ cs', en = .returned (.tuple #[]) ∧ Blk w' w1.heap.size cs' U1 ∧ SameOut z.toList cs' 0 (0 + top sch) ∧ Keeps [w1.heap.size] w3 w' ∧ Fresh cs' 0 sch) he ?_ ?_
    · simp only [List.map_toArray, List.map_cons, List.map_nil, aget_eval]
      rw [aget_put_same _ _ _ (by omega)]
      exact hDef w3 w1.heap.size 0 U1 z.toList hzb hzf
    rintro en w4 ⟨cs4, rfl, hb4, -, hk4, hF4⟩
    refine ⟨_, rfl, wpList_nil ?_⟩
    have hst4 := hopen.upd hb4 hk4
    have hf5 : Fr N lo t nt a4 ((a4.put (some t4) (.pointer (some ⟨w1.heap.size, 0, none⟩))).put (some (t4 + 1)) (.tuple #[])) := ((Fr.refl N lo t nt a4).put _ _ (by omega)).put _ _ (by omega)
    have hv5 : aget ((a4.put (some t4) (.pointer (some ⟨w1.heap.size, 0, none⟩))).put (some (t4 + 1)) (.tuple #[])) v = .pointer (some ⟨w1.heap.size, 0, none⟩) := by rw [aget_put_other _ _ _ v (by omega), aget_put_other _ _ _ v (by omega)]; exact hx4
    generalize ((a4.put (some t4) (.pointer (some ⟨w1.heap.size, 0, none⟩))).put (some (t4 + 1)) (.tuple #[])) = a5 at *
    have hN5 := hf5.size.trans hN4
    simp only [Exit.then]
    refine wp_seq (reg_copy (x0 := nt) (lo := lo) hN5 hv5 ⟨x3, d13, d14, d17, d18⟩ fun a6 hf6 hx6 => ?_)
    have hf06 := (hf04.trans hf5).trans hf6
    have hh6 := hh.frR (kokR hk) hD hf06
    have hkA : Keeps [rb, b] w w1 := keeps_rb hk1
    have hkB : Keeps [rb, b] w1 w3 := hk3.mono (by simp)
    refine h (w1.heap.size :: O) rb w1.heap.size 0 U1 a6 w4 cs4 (some q.2) Q (hf06.size.trans hN) (hh6.tail.cons hx6) hst4 hF4 (fun a7 w7 cs7 k1 k2 k3 k4 k5 => ?_) (fun a7 w7 k1 k2 k3 k4 k5 => ?_)
    · have hkC : Keeps [rb, w1.heap.size] w3 w7 := (hk4.mono (by simp)).trans k3
      have hkD : Keeps [rb, b] w1 w7 := ((hkB.mono (O' := [w1.heap.size, rb, b]) (fun k hk => List.mem_cons_of_mem _ hk)).trans (hkC.mono (fun k hk => by simp only [List.mem_cons, List.not_mem_nil, or_false] at hk ⊢; omega))).close (Nat.le_refl _)
      have hb7 : Blk w7 b (cs.set (o + off) (.pointer (some ⟨w1.heap.size, 0, none⟩))) T := hst3.blk.keeps hkC (by simp; exact ⟨hst1.ne, hbg⟩)
      refine hq a7 w7 _ ?_ (hf06.trans (k2.mono d19 d20)) (hkA.trans hkD) ((SameOut.set cs (o + off) (.pointer (some ⟨w1.heap.size, 0, none⟩))).mono (by omega) (by simp only [top]; omega)) fun gv r hv => ?_
      · rw [tot2]
        exact ⟨k1.rdr.mono (fun k hk => List.mem_cons_of_mem _ hk), hb7, hst1.rbO, hst1.bO, hst1.ne, hlt_on hst1.lt hkD, k1.glob, hst1.gO⟩
      · rw [tot2] at hv
        have hrep := (k5 gv r hv).mono hRT (O' := O) (fun k hk => List.mem_cons_of_mem _ hk)
        have hcell : w7.cell? ⟨b, o + off, none⟩ = some (.pointer (some ⟨w1.heap.size, 0, none⟩)) := hb7.cell_some (by rw [List.getElem?_set_self hlt])
        have hnn : gv ≠ .null := by
          rintro rfl
          rw [← hsch] at hrep
          exact hrep
        have hlt7 : w1.heap.size < w7.heap.size := k1.blk.lt
        cases gv
        case null => exact absurd rfl hnn
        all_goals exact ⟨w1.heap.size, 0, hcell, new_notin hst1.lt, hlt7, hrep⟩
    · have hkC : Keeps [rb, w1.heap.size] w3 w7 := (hk4.mono (by simp)).trans k5
      have hkD : Keeps [rb, b] w1 w7 := ((hkB.mono (O' := [w1.heap.size, rb, b]) (fun k hk => List.mem_cons_of_mem _ hk)).trans (hkC.mono (fun k hk => by simp only [List.mem_cons, List.not_mem_nil, or_false] at hk ⊢; omega))).close (Nat.le_refl _)
      exact hr a7 w7 (by rw [tot2]; exact k1) k2 (k3.trans hf06.defers) k4 (hkA.trans hkD)
end
end Go.Proofs.YtfchajjllhndlabGreatDoor

/- A part that may be null: what is written of it. -/
namespace Go.Proofs.YtfchajjllhndlabGreatDoor
open Go Go.RowKit
set_option linter.unusedVariables false

theorem run_build1 {P : Program} {Ts e y : Nat} {q : String} {g : Array Edge} {d : Option Nat} {v : Value} (hT : P.underlying Ts = some (.slice e)) (hi : ∃ i, P.info? e = some i ∧ i.zero = some (.int .u8 0) ∧ i.size = 1 ∧ i.bytes = 1) (hv : v.oneCell' = true) (hc : v.cells = #[v]) (w : World) (a : Act) :
    (execOp a.eval ⟨d, .buildSlice Ts 1 #[(0, .const v)], y, q, g, none⟩).run P w = .ok (.value (.slice (some ⟨w.heap.size, 0, none⟩) 1 1)) (w.alloc (.cells #[v] e)) := by
  obtain ⟨i, hi, hz, hs, -⟩ := hi
  have e0 : a.eval (.const v) = v := rfl
  simp [execOp, Instr.buildSlice, run_underlying hT, sizeOf, typeInfo, hi, hs, hz, zeroValue, newRow, Instr.fill, e0, hc]
  have e1 : ∀ f : Nat → Value, (Array.map f (Array.range 1)).setIfInBounds 0 v = #[v] := fun f => by
    rw [show Array.range 1 = #[0] from rfl]
    simp [Array.setIfInBounds]
  rw [e1]
section
variable {RT : RTags} {P : Program} {N nt : Nat} {K : Slots} {lo t : Nat}
/-- 'dst = append(dst, x)' of one octet. -/
theorem app_byte {w0 : World} {t3 Tb r y1 y2 y3 y4 : Nat} {p1 p2 p3 p4 : String} {e1 e2 e3 e4 : Array Edge} {x : UInt8} {n : Int} (hTb : BytesT P Tb 5) (hn : (Value.int .u8 n) = byteV x) (hD : Dims N nt lo t) (hd : t ≤ t3 ∧ t3 + 2 < nt) :
    App P N nt w0 K lo t (Code.region r #[⟨some t3, .move (.tmp 1), y1, p1, e1, none⟩, ⟨some (t3 + 1), .buildSlice Tb 1 #[(0, .const (.int .u8 n))], y2, p2, e2, none⟩,
      ⟨some (t3 + 2), .call { callee := .builtin .append, args := #[.tmp t3, .tmp (t3 + 1)], argTypes := #[Tb, Tb] }, y3, p3, e3, none⟩, ⟨some 1, .assign (.tmp (t3 + 2)), y4, p4, e4, none⟩] false) [x] := by
  intro a w bs Q hst hh hl hq
  obtain ⟨g1, g2, g3, g4⟩ := hD
  obtain ⟨h1, h2⟩ := hd
  have hN := hst.size
  refine wp_reg ?_
  refine wl_move rfl ?_
  refine wl_value (v := .slice (some ⟨w.heap.size, 0, none⟩) 1 1) (w' := w.alloc (.cells #[.int .u8 n] 5)) rfl (run_build1 hTb.under hTb.info rfl rfl w _) ?_
  have hlt : t3 < a.tmps.size := by rw [hN]; omega
  refine wpl_append_bytes hTb rfl _ _ rfl w0.heap.size bs ?_ hst.below.size [.int .u8 n] [x] (by simp [hn]) ?_ (by simpa using hl) ?_
  · rw [aget_eval, aget_put_other _ _ _ _ (by omega), aget_put_same _ _ _ (by omega)]
    exact hst.own
  · rw [aget_eval, aget_put_same _ _ _ (by simp only [size_put]; omega)]
    rfl
  intro v' w' hown hbel
  refine wl_assign (aget_put_same _ _ _ (by simp only [size_put]; omega)) ?_
  refine wpList_nil (hq _ _ ⟨by simp only [size_put, hN], ?_, hst.below.trans hbel⟩ (((((Fr.refl N lo t 1 a).put _ _ (by omega)).put _ _ (by omega)).put _ _ (by omega)).put _ _ (by omega)))
  rw [aget_put_same _ _ _ (by simp only [size_put]; omega)]
  exact hown
/-- 'v := s.F; if v == nil { 255 } else { 1, .. }'. -/
theorem appF_opt {ver : Int} {flex : Bool} {s v t1 t2 t3 t4 T T2 U2 Tb k U off r r2 r3 r4 y1 y2 y3 y4 y5 y6 y7 y8 y9 y10 y11 y12 y13 y14 y15 lo' t' : Nat} {p1 p2 p3 p4 p5 p6 p7 p8 p9 p10 p11 p12 p13 p14 p15 : String} {e1 e2 e3 e4 e5 e6 e7 e8 e9 e10 e11 e12 e13 e14 e15 : Array Edge} {c : Code} {off2 : Nat} {vl : Int} {vh : Option Int} {f2 rest2 : Sch}
    (hk : KOK N lo t K) (hT : FieldAt P T k off) (hU : OneCell P U) (hT2 : P.underlying T2 = some (.pointer (P.pointee T2))) (hTb : BytesT P Tb 5) (hD : Dims N nt lo t) (hD' : Dims N nt lo' t')
    (hd : t ≤ t1 ∧ t1 + 3 < nt ∧ lo ≤ v ∧ v < N ∧ v < lo' ∧ lo ≤ lo' ∧ t ≤ t' ∧ t ≤ t2 ∧ t2 + 1 < nt ∧ t ≤ t3 ∧ t3 + 2 < nt ∧ t ≤ t4 ∧ t4 + 2 < nt ∧ v ≠ 1)
    (h : AppS RT P N nt ver flex K lo' t' v c (.cons off2 vl vh f2 rest2)) :
    AppF RT P N nt ver flex K lo t s ((Code.region r #[⟨some t1, .move (.tmp s), y1, p1, e1, none⟩, ⟨some (t1 + 1), .nilCheck (.tmp t1), y2, p2, e2, none⟩, ⟨some (t1 + 2), .fieldAddr T (.tmp (t1 + 1)) k, y3, p3, e3, none⟩,
      ⟨some (t1 + 3), .load U (.tmp (t1 + 2)), y4, p4, e4, none⟩, ⟨some v, .assign (.tmp (t1 + 3)), y5, p5, e5, none⟩] false).seq
      ((Code.region r2 #[⟨some t2, .move (.tmp v), y6, p6, e6, none⟩, ⟨some (t2 + 1), .binOp .eql T2 (.tmp t2) (.const (.pointer none)) U2, y7, p7, e7, none⟩] false).seq (.cond (.tmp (t2 + 1))
        (Code.region r3 #[⟨some t3, .move (.tmp 1), y8, p8, e8, none⟩, ⟨some (t3 + 1), .buildSlice Tb 1 #[(0, .const (.int .u8 255))], y9, p9, e9, none⟩,
          ⟨some (t3 + 2), .call { callee := .builtin .append, args := #[.tmp t3, .tmp (t3 + 1)], argTypes := #[Tb, Tb] }, y10, p10, e10, none⟩, ⟨some 1, .assign (.tmp (t3 + 2)), y11, p11, e11, none⟩] false)
        ((Code.region r4 #[⟨some t4, .move (.tmp 1), y12, p12, e12, none⟩, ⟨some (t4 + 1), .buildSlice Tb 1 #[(0, .const (.int .u8 1))], y13, p13, e13, none⟩,
          ⟨some (t4 + 2), .call { callee := .builtin .append, args := #[.tmp t4, .tmp (t4 + 1)], argTypes := #[Tb, Tb] }, y14, p14, e14, none⟩, ⟨some 1, .assign (.tmp (t4 + 2)), y15, p15, e15, none⟩] false).seq c)))) off (.opt (.cons off2 vl vh f2 rest2)) := by
  intro w0 b o gv hrep a w bs Q hst hh hl hq
  obtain ⟨d1, d2, d3, d4, d5, d6, d7, d8, d9, d10, d11, d12, d13, d14⟩ := hd
  have x1 := hD.dOne; have x2 := hD.dLo; have x3 := hD.dT; have x4 := hD.dN
  have z1 := hD'.dLo; have z2 := hD'.dT
  have hX : ∃ x, w0.cell? ⟨b, o + off, none⟩ = some x ∧ ((x = .pointer none ∧ gv = .null) ∨ ∃ p q, x = .pointer (some ⟨p, q, none⟩) ∧ gv ≠ .null ∧ Rep RT [] w0 ver flex (.cons off2 vl vh f2 rest2) p q gv) := by
    cases gv
    case null => exact ⟨_, hrep, .inl ⟨rfl, rfl⟩⟩
    all_goals
      obtain ⟨p, q, h1, -, -, h2⟩ := hrep
      exact ⟨_, h1, .inr ⟨p, q, rfl, (fun h => by cases h), h2⟩⟩
  obtain ⟨x, hc, hx⟩ := hX
  refine wp_seq (reg_load (x0 := nt) (lo := lo) hT hU hst.size hh.head (by rw [Addr.add_lit]; exact hst.cell hc) ⟨hD.dT, d1, d2, d3, d4⟩ fun a1 hf1 hx1 => ?_)
  have hst1 := hst.fr hf1 hD
  have hN1 := hst1.size
  have hh1 := hh.tail.fr hk (hf1.to1 hD)
  refine wp_seq (wp_reg ?_)
  refine wl_move hx1 ?_
  rcases hx with ⟨rfl, rfl⟩ | ⟨p, q, rfl, hne, hr⟩
  · refine wl_bin (r := .bool true) (aget_put_same _ _ _ (by omega)) rfl (by rw [run_eql_pointer_nil _ _ _ hT2]; try rfl) ?_
    have hf2 : Fr N lo t nt a1 ((a1.put (some t2) (.pointer none)).put (some (t2 + 1)) (.bool true)) := ((Fr.refl N lo t nt a1).put _ _ (by omega)).put _ _ (by omega)
    refine wpList_nil (wp_cond_true (aget_put_same _ _ _ (by simp only [size_put]; omega)) ?_)
    have e : ap ver flex (.opt (.cons off2 vl vh f2 rest2)) .null = [255] := by simp [ap]
    rw [e] at hl hq
    exact app_byte (x := 255) hTb rfl hD ⟨d10, d11⟩ _ w bs Q (hst1.fr hf2 hD) (hh1.fr hk (hf2.to1 hD)) hl fun a3 w3 hs3 hf3 => hq a3 w3 hs3 ((hf1.to1 hD).trans ((hf2.to1 hD).trans hf3))
  · refine wl_bin (r := .bool false) (aget_put_same _ _ _ (by omega)) rfl (by rw [run_eql_pointer_nil _ _ _ hT2]; try rfl) ?_
    have hf2 : Fr N lo t nt a1 ((a1.put (some t2) (.pointer (some ⟨p, q, none⟩))).put (some (t2 + 1)) (.bool false)) := ((Fr.refl N lo t nt a1).put _ _ (by omega)).put _ _ (by omega)
    refine wpList_nil (wp_cond_false (aget_put_same _ _ _ (by simp only [size_put]; omega)) ?_)
    have e : ap ver flex (.opt (.cons off2 vl vh f2 rest2)) gv = [1] ++ ap ver flex (.cons off2 vl vh f2 rest2) gv := by cases gv <;> first | exact absurd rfl hne | simp [ap]
    rw [e] at hl hq
    have hv2 : aget ((a1.put (some t2) (.pointer (some ⟨p, q, none⟩))).put (some (t2 + 1)) (.bool false)) v = .pointer (some ⟨p, q, none⟩) := by rw [aget_put_other _ _ _ _ (by omega), aget_put_other _ _ _ _ (by omega)]; exact hx1
    have hD2 : Dims N nt lo' t := ⟨by omega, z1, x3, x4⟩
    simp only [List.length_append] at hl
    refine wp_seq (app_byte (x := 1) (K := K) hTb rfl hD2 ⟨d12, d13⟩ _ w bs _ (hst1.fr hf2 hD) (hh1.fr hk (hf2.to1 hD)) (by omega) fun a3 w3 hs3 hf3 => ?_)
    have hv3 : aget a3 v = .pointer (some ⟨p, q, none⟩) := (hf3.same v d14 (.inl d5)).trans hv2
    have hf03 := (hf1.to1 hD).trans ((hf2.to1 hD).trans (hf3.mono d6 (Nat.le_refl _)))
    have hh3 : Holds K a3 := hh.tail.fr hk hf03
    refine h w0 p q gv hr a3 w3 _ Q hs3 (hh3.cons hv3) (by simp only [List.length_append]; omega) fun a4 w4 hs4 hf4 => ?_
    rw [List.append_assoc] at hs4
    exact hq a4 w4 hs4 (hf03.trans (hf4.mono d6 d7))
end
end Go.Proofs.YtfchajjllhndlabGreatDoor
