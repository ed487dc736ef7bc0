/- Shared texts of these proofs, laid together by merge.py: Un, Spo, Sph, Spi, Spk, Zf, Cd, Gv, Sz. -/
import Derived.Test.YtfchajjllhndlabGreatDoorMf
import Derived.Laws.OwnMore
import Derived.OneCell
import Derived.Test.YtfchajjllhndlabGreatDoorMa
import Derived.OpenShut
import Derived.ProofKit
import Derived.Test.YtfchajjllhndlabGreatDoorMc
set_option linter.unusedVariables false
/- The reference's unknown tags: laid in by rising numbers, each once. -/
namespace Go.Proofs.YtfchajjllhndlabGreatDoor
open Go Go.RowKit
set_option linter.unusedVariables false

theorem ownsRow_stay {base n k size : Nat} {e : TypeId} {w w' : World} {v : Value} {xs : List Value} (h : w.ownsRow base e size v k xs) (hb : Below n w w') (hn : w.heap.size ≤ n) : w'.ownsRow base e size v k xs := by
  refine ⟨h.1, ?_⟩
  rcases h.2 with hz | ⟨g, cap, cur, hv, hbg, hg, rest⟩
  · exact .inl hz
  · have hlt : g < w.heap.size := (Array.getElem?_eq_some_iff.1 hg).1
    exact .inr ⟨g, cap, cur, hv, hbg, (hb.block g (by omega)).trans hg, rest⟩
theorem ownsRow_mono {w : World} {base base' : Nat} {e : TypeId} {size : Nat} {v : Value} {n : Nat} {xs : List Value} (h : w.ownsRow base e size v n xs) (hb : base' ≤ base) : w.ownsRow base' e size v n xs :=
  ⟨h.1, h.2.imp id fun ⟨g, cap, cur, hv, hg, r⟩ => ⟨g, cap, cur, hv, Nat.le_trans hb hg, r⟩⟩
theorem ownsRow_nz {base k size : Nat} {e : TypeId} {w : World} {v : Value} {xs : List Value} (h : w.ownsRow base e size v k xs) (hk : k ≠ 0) : ∃ g cap, v = .slice (some ⟨g, 0, none⟩) k cap ∧ base ≤ g ∧ g < w.heap.size := by
  rcases h.2 with ⟨-, hz⟩ | ⟨g, cap, cur, hv, hbg, hg, rest⟩
  · exact absurd hz hk
  · exact ⟨g, cap, hv, hbg, (Array.getElem?_eq_some_iff.1 hg).1⟩
theorem ownsRow_shape {base k size : Nat} {e : TypeId} {w : World} {v : Value} {xs : List Value} (h : w.ownsRow base e size v k xs) : ∃ a cap, v = .slice a k cap := by
  rcases h.2 with ⟨rfl, rfl⟩ | ⟨g, cap, cur, rfl, -⟩
  · exact ⟨none, 0, rfl⟩
  · exact ⟨_, _, rfl⟩
theorem tagInfo : (Tryz.prog.info? 79).map (fun i => (i.zero, i.size, i.bytes)) = some (some (.agg #[.int .u32 0, .slice none 0 0]), 2, 32) := by kernel_rfl
/-- Each tag's octets lie below B. -/
def TVs (B : Nat) (w : World) (L : List TV) : Prop := ∀ t ∈ L, t.1 ≤ 4294967295 ∧ RL B w t.2.1 t.2.2
theorem TVs.below {B : Nat} {w w' : World} {L : List TV} (h : TVs B w L) (hk : Below B w w') : TVs B w' L := fun t ht => ⟨(h t ht).1, (h t ht).2.below hk⟩
theorem ownsU_cells {base : Nat} {w : World} {g cap : Nat} {L : List TV} {n : Nat} (h : w.ownsRow base 79 2 (.slice (some ⟨g, 0, none⟩) n cap) n (cellsU L)) (hn : n = L.length) {i : Nat} {t : TV} (hi : L[i]? = some t) :
    w.cell? ⟨g, i * 2, none⟩ = some (.int .u32 (t.1 : Int)) ∧ w.cell? ⟨g, i * 2 + 1, none⟩ = some t.2.1 := by
  have hl := (List.getElem?_eq_some_iff.1 hi).1
  have h0 := h.cellAt (2 * i) (by omega)
  have h1 := h.cellAt (2 * i + 1) (by omega)
  rw [cellsU_get0 L i t hi] at h0
  rw [cellsU_get1 L i t hi] at h1
  rw [Nat.mul_comm i 2]
  exact ⟨h0, h1⟩
theorem ownsU_rep {base B : Nat} {w : World} {v : Value} {L : List TV} (h : w.ownsRow base 79 2 v L.length (cellsU L)) (hL : TVs B w L) (hB : B ≤ w.heap.size) : RepU w.heap.size w (bytesU L) v := by
  have hlen : (bytesU L).length = L.length := by simp [bytesU]
  rcases Nat.eq_zero_or_pos L.length with hz | hz
  · have e : L = [] := List.eq_nil_of_length_eq_zero hz
    subst e
    rcases h.2 with ⟨rfl, -⟩ | ⟨g, cap, cur, rfl, -, -, h1, h2, -⟩
    · exact ⟨none, 0, rfl, Nat.le_refl _, by omega, fun h => absurd rfl h⟩
    · exact ⟨_, cap, rfl, Nat.zero_le _, by unfold maxLen at h2; omega, fun h => absurd rfl h⟩
  · have h' := h
    obtain ⟨-, hs⟩ := h
    rcases hs with ⟨-, h0⟩ | ⟨g, cap, cur, rfl, hbg, hg, h1, h2, -⟩
    · omega
    · refine ⟨some ⟨g, 0, none⟩, cap, by rw [hlen], by rw [hlen]; exact h1, by unfold maxLen at h2; omega, fun _ => ⟨g, 0, rfl, (Array.getElem?_eq_some_iff.1 hg).1, fun i kv hi => ?_⟩⟩
      unfold bytesU at hi
      rw [List.getElem?_map, Option.map_eq_some_iff] at hi
      obtain ⟨t, ht, rfl⟩ := hi
      obtain ⟨c0, c1⟩ := ownsU_cells h' rfl ht
      obtain ⟨l1, l2⟩ := hL t (List.mem_of_getElem? ht)
      rw [Nat.mul_comm i 2] at c0 c1
      rw [Nat.zero_add]
      exact ⟨c0, l1, _, c1, l2.mono hB⟩
theorem keepU {n g : Nat} {w w' : World} {a b : Nat} {x y : Value} {B : Nat} (hb : Below n w w') (hg : g < n) (hB : B < n) (h : w.cell? ⟨g, a, none⟩ = some x ∧ w.cell? ⟨B, b, none⟩ = some y) : w'.cell? ⟨g, a, none⟩ = some x ∧ w'.cell? ⟨B, b, none⟩ = some y :=
  ⟨(hb.cell (p := ⟨g, a, none⟩) hg).trans h.1, (hb.cell (p := ⟨B, b, none⟩) hB).trans h.2⟩
theorem bytesU_ins {L : List TV} {k : Nat} {x : Value} {s : List UInt8} : bytesU (insG k (x, s) L) = insU k s (bytesU L) := by
  unfold bytesU
  rw [insU_insG]
  exact insG_map (fun p : Value × List UInt8 => p.2) k (x, s) L
theorem shift_len {α : Type} {l : List α} {k : Nat} {x : α} : (l.take k ++ x :: l.drop k).length = l.length + 1 := by
  simp
  omega

theorem Below_drewM {B : Nat} {a w : World} (h : Below B a w) (n : Nat) : Below B a (w.drewN n) := ⟨h.os, h.tape, h.output, h.size, h.block⟩
theorem boxApart {w : World} {base b : Nat} {v : Value} {L : List TV} {c0 c1 : Value} (h : w.ownsRow base 79 2 v L.length (cellsU L)) (hnil : L = [] → v = .slice none 0 0) (hb : base ≤ b) :
    ∃ base2, base ≤ base2 ∧ base2 ≤ b + 1 ∧ w.ownsRow base2 79 2 v L.length (cellsU L) ∧
      ∀ (w6 : World) (v' : Value) (xs : List Value), w6.ownsRow base2 79 2 v' (L.length + 1) xs → Blk w6 b [c0, c1] 79 → v'.ownBlock ≠ some b := by
  by_cases hL : L = []
  · subst hL
    obtain rfl := hnil rfl
    refine ⟨b + 1, by omega, Nat.le_refl _, World.ownsRow_nil _ _ _ 2, fun w6 v' xs h6 _ e => ?_⟩
    have := (h6.lt b e).1
    omega
  · refine ⟨base, Nat.le_refl _, by omega, h, fun w6 v' xs h6 hB e => ?_⟩
    rcases h6.2 with ⟨rfl, -⟩ | ⟨g, cap, cur, rfl, -, hg, h1, -, h3, -⟩
    · simp [Value.ownBlock] at e
    · simp only [Value.ownBlock, Option.some.injEq] at e
      subst e
      unfold Blk at hB
      rw [hB] at hg
      simp only [Option.some.injEq, Obj.cells.injEq] at hg
      have hc : cur.size = 2 := by rw [← hg.1]; rfl
      have : 0 < L.length := List.length_pos_iff.2 hL
      omega

set_option maxRecDepth 100000 in
set_option maxHeartbeats 12800000 in
theorem spUnknown (fs : PFs) (ht : fs.noTag) (fv uv : Value) (u : List (Nat × List UInt8)) (B base : Nat) (w : World) (hB : B ≤ base) (hb : base ≤ w.heap.size) (hf : RepF B w fs fv) (hu : RepU B w u uv) :
    Calls Tryz.prog 143 #[fv, uv] w fun e w' => ∃ v, e = .returned v ∧ RepU w'.heap.size w' (unk u) v ∧ Below base w w' := by
  obtain ⟨ua, ucap, rfl, hul, huc, hur⟩ := hu
  have K := Lib.hid (spKnown0 fs ht fv B base w hB hb hf)
  obtain ⟨fa, fcap, rfl, -⟩ := hf
  have HU := Lib.hid hur
  clear hur
  obtain ⟨m, hm⟩ : ∃ m, min u.length 32767 = m := ⟨_, rfl⟩
  have hunk : unk u = unkTo m u := by rw [← hm]; exact unk_unkTo u
  have hml : m ≤ u.length ∧ m ≤ 32767 := by omega
  have UNK := Lib.hid hunk
  clear hunk
  go_enter Tryz.func143, Tryz.ntmps143
  go_wp2_with fail
  refine K.out.mono ?_
  rintro e w1 ⟨rfl, hb1⟩
  have HB1 := Lib.hid hb1
  have z1 := hb1.size
  clear hb1
  go_wp2_with fail
  simp only [takeCount, hm]
  go_loopw [6, 19] (fun v i wq => ∃ (k : Nat) (L : List TV), i = .int .i64 (k : Nat) ∧ k ≤ m ∧ wq.ownsRow w1.heap.size 79 2 v L.length (cellsU L) ∧ (L = [] → v = .slice none 0 0) ∧ bytesU L = unkTo k u ∧ TVs B w L ∧ L.length ≤ k ∧ Below w1.heap.size w1 wq)
    (fun _ i _ => m - (intOf i).toNat)
  case atStart => exact ⟨0, [], rfl, Nat.zero_le _, World.ownsRow_nil _ _ _ 2, fun _ => rfl, rfl, (fun t h => nomatch h), Nat.le_refl _, Below.refl _ _⟩
  case round =>
    obtain ⟨k, L, rfl, hk, hown, hnil, hby, hL, hLk, hbk⟩ := hrel
    rename World => wo
    by_cases hkm : k < m
    · obtain ⟨kv, hkv⟩ : ∃ kv, u[k]? = some kv := ⟨u[k]'(by omega), List.getElem?_eq_getElem (by omega)⟩
      obtain ⟨p, q, rfl, hp, hc⟩ := HU.out (by intro e; subst e; simp at hkv)
      obtain ⟨c0, hkey, x, c1, hx⟩ := hc k kv hkv
      obtain ⟨xa, xcap, rfl, -⟩ := id hx
      rw [Nat.mul_comm 2 k] at c0 c1
      have hpw : p < w1.heap.size := by omega
      have d0 := (hbk.cell (p := ⟨p, q + k * 2, none⟩) hpw).trans ((HB1.out.cell (p := ⟨p, q + k * 2, none⟩) (by show p < base; omega)).trans c0)
      have d1 := (hbk.cell (p := ⟨p, q + k * 2 + 1, none⟩) hpw).trans ((HB1.out.cell (p := ⟨p, q + k * 2 + 1, none⟩) (by show p < base; omega)).trans c1)
      obtain ⟨va, vcap, rfl⟩ := ownsRow_shape hown
      have hvb : (Value.slice va L.length vcap).ownBlock ≠ some wo.heap.size := fun h => Nat.lt_irrefl _ (hown.lt _ h).2
      have zr := hbk.size
      have hk0 : ¬ ((kv.1 : Nat) : Int) < 0 := by omega
      have hsA : (wo.alloc (.cells #[.int .u32 (kv.1 : Int), .slice xa kv.2.length xcap] 79)).heap.size = wo.heap.size + 1 := by simp
      have ZA := Lib.hid (And.intro (hown.alloc (.cells #[.int .u32 (kv.1 : Int), .slice xa kv.2.length xcap] 79)) (And.intro (Blk.alloc_new wo [.int .u32 (kv.1 : Int), .slice xa kv.2.length xcap] 79) (hbk.alloc hbk.size (.cells #[.int .u32 (kv.1 : Int), .slice xa kv.2.length xcap] 79))))
      have hLl : L.length ≤ 32767 := by omega
      have HX := Lib.hid hx
      clear hown hbk hx c0 c1 hc
      go_wp2_with fail
      obtain ⟨wA, hwA⟩ : ∃ wA, wA = wo.alloc (.cells #[.int .u32 (kv.1 : Int), .slice xa kv.2.length xcap] 79) := ⟨_, rfl⟩
      have ZA := Lib.hid ZA.out
      rw [← hwA] at ZA hsA ⊢
      clear hwA d0 d1
      go_loopw [9] (fun i w2 => ∃ j : Nat, i = .int .i64 (j : Nat) ∧ j ≤ posU kv.1 L ∧ Below wA.heap.size wA w2) (fun i _ => L.length - (intOf i).toNat)
      case atStart => exact ⟨0, rfl, Nat.zero_le _, Below.refl _ _⟩
      case round =>
        obtain ⟨j, rfl, hj, hbj⟩ := hrel
        rename World => w2
        have hown2 := ownsRow_stay ZA.out.1 hbj (Nat.le_refl _)
        have hbox2 := ZA.out.2.1.below hbj (by omega)
        have hbk2 : Below w1.heap.size w1 w2 := ZA.out.2.2.trans (hbj.mono (by omega))
        have x0 := hbox2.cell_some (i := 0) rfl
        have x1 := hbox2.cell_some (i := 1) rfl
        by_cases hjl : j < L.length
        · obtain ⟨g, cap, hve, hg1, hg2⟩ := ownsRow_nz hown2 (by omega)
          cases hve
          have hLj : L[j]? = some L[j] := List.getElem?_eq_getElem hjl
          obtain ⟨e0, e1⟩ := ownsU_cells hown2 rfl hLj
          obtain ⟨kj, hkj⟩ : ∃ kj, L[j].1 = kj := ⟨_, rfl⟩
          rw [hkj] at e0
          by_cases hlt : kj < kv.1
          · have FIN := Lib.hid (posU_next kv.1 L j _ hj hLj (by rw [hkj]; exact hlt))
            have FB := Lib.hid hbj.drew
            clear hown2 hbox2 hbk2 hbj e1 hLj
            go_wp2_with fail
            go_region_held3 (fun w' => w'.cell? ⟨g, j * 2, none⟩ = some (.int .u32 (kj : Int)) ∧ w'.cell? ⟨wo.heap.size, 0, none⟩ = some (.int .u32 (kv.1 : Int))) (first | exact ⟨e0, x0⟩) (first | fail)
            go_wp2
            go_roundw
            case rel => exact ⟨j + 1, by go_num, FIN.out, FB.out⟩
            case measure => simp [intOf]; omega
          · have hpos : j = posU kv.1 L := posU_eq kv.1 L j hj (fun t ht => by rw [hLj] at ht; cases ht; omega)
            by_cases heq : kj = kv.1
            · have hins : bytesU L = unkTo (k + 1) u := by
                rw [unkTo_succ hkv, ← hby, ← bytesU_ins (x := .slice xa kv.2.length xcap), insG_there (t := L[j]) (by rw [← hpos]; exact hLj) (by rw [hkj]; exact heq)]
              have Z := Lib.hid (And.intro hown2 (And.intro hbk2 hins))
              subst heq
              clear hown2 hbox2 hbk2 hbj e1 hLj hins hpos
              go_wp2_with fail
              go_region_held3 (fun w' => w'.cell? ⟨g, j * 2, none⟩ = some (.int .u32 (kv.1 : Int)) ∧ w'.cell? ⟨wo.heap.size, 0, none⟩ = some (.int .u32 (kv.1 : Int))) (first | exact ⟨e0, x0⟩) (first | fail)
              go_wp2_with fail
              go_region_held3 (fun w' => w'.cell? ⟨g, j * 2, none⟩ = some (.int .u32 (kv.1 : Int)) ∧ w'.cell? ⟨wo.heap.size, 0, none⟩ = some (.int .u32 (kv.1 : Int))) (first | exact ⟨e0, x0⟩) (first | fail)
              go_wp2
              go_roundw
              case rel => exact ⟨k + 1, L, by go_num, by omega, Z.out.1, hnil, Z.out.2.2, hL, by omega, Z.out.2.1.drew.drew⟩
              case measure => simp [intOf]; omega
            · have hnew : ∀ t, L[posU kv.1 L]? = some t → t.1 ≠ kv.1 := fun t ht => by rw [← hpos, hLj] at ht; cases ht; omega
              have Z := Lib.hid (show w2.drew.drew.ownsRow w1.heap.size 79 2 (.slice (some ⟨g, 0, none⟩) L.length vcap) L.length (cellsU L) ∧ Blk w2.drew.drew wo.heap.size [.int .u32 (kv.1 : Int), .slice xa kv.2.length xcap] 79 ∧ Below w1.heap.size w1 w2.drew.drew from ⟨hown2, hbox2, hbk2.drew.drew⟩)
              subst hpos
              clear hown2 hbox2 hbk2 hbj e1 hLj
              go_wp2_with fail
              go_region_held3 (fun w' => w'.cell? ⟨g, posU kv.1 L * 2, none⟩ = some (.int .u32 (kj : Int)) ∧ w'.cell? ⟨wo.heap.size, 0, none⟩ = some (.int .u32 (kv.1 : Int))) (first | exact ⟨e0, x0⟩) (first | fail)
              go_wp2_with fail
              go_region_held3 (fun w' => w'.cell? ⟨g, posU kv.1 L * 2, none⟩ = some (.int .u32 (kj : Int)) ∧ w'.cell? ⟨wo.heap.size, 0, none⟩ = some (.int .u32 (kv.1 : Int))) (first | exact ⟨e0, x0⟩) (first | fail)
              clear e0
              have hzz : w2.drew.drew.heap.size = w2.heap.size := rfl
              generalize w2.drew.drew = wz at *
              go_wp2_with (at_builtin; refine halted ?_)
              case roundEnd =>
                exfalso
                rename_i hbad
                first
                  | omega
                  | (rcases hbad with h | h
                     · omega
                     · have := eq_of_beq h
                       omega)
              obtain ⟨hown2, hbox2, hbk2⟩ := Z.out
              obtain ⟨base2, hz1, hz2, hown2', hap⟩ := boxApart (b := wo.heap.size) (c0 := .int .u32 (kv.1 : Int)) (c1 := .slice xa kv.2.length xcap) hown2 hnil (by omega)
              have hs2 := hbox2.lt
              obtain ⟨i0, hi, hz, hs, hby⟩ := info_parts tagInfo
              have c5 := Blk.alloc_new wz [.int .u32 0, .slice none 0 0] 79
              have hzz' := hzz
              refine wpl_append_src (by rfl) (.tmp 59) (.tmp 61) 24 24 (by rfl) base2 79 i0 _ 2 32 Tryz.underlying24 hi hz hs hby (by rfl) (.slice (some ⟨g, 0, none⟩) L.length vcap) L.length (cellsU L) (by rfl) (hown2'.alloc _) (.slice (some ⟨w2.heap.size, 0, none⟩) 1 1) 1 [.int .u32 0, .slice none 0 0] (by rfl)
                (Src.ofSlice _ Tryz.underlying24 _ 1 1 _ rfl ?_ ?_) (by unfold maxLen; omega) (by omega) (by simp; omega) ?_
              · intro i u hu
                rw [Addr.add_lit, ← hzz]
                exact c5.cell_some (by simpa using hu)
              · intro u hu
                simp only [List.mem_cons, List.not_mem_nil, or_false] at hu
                rcases hu with rfl | rfl <;> rfl
              intro v' w6 hown6 hg6 _
              have hb6 : Below w1.heap.size wz w6 := ((Below.refl w1.heap.size wz).alloc (by have := hbk2.size; omega) _).grown hg6 (by simp; have := hbk2.size; omega) (fun k hk => (hown2.lt k hk).1)
              have hbox6 : Blk w6 wo.heap.size [.int .u32 (kv.1 : Int), .slice xa kv.2.length xcap] 79 := by
                refine (hg6.block _ ?_ ?_).trans (hbox2.alloc _)
                · simp; omega
                · intro e
                  exact hvb e.symm
              have hne := hap w6 v' _ hown6 hbox6
              have hown6 := ownsRow_mono hown6 hz1
              obtain ⟨g', cap', rfl, hg1, hg2⟩ := ownsRow_nz hown6 (by omega)
              have hne : g' ≠ wo.heap.size := fun e => hne (by simp [Value.ownBlock, e])
              have hbk6 : Below w1.heap.size w1 w6 := hbk2.trans hb6
              have Q6 := Lib.hid (And.intro hown6 (And.intro hbox6 hbk6))
              clear hown6 hbox6 hbk6 hb6 hg6 hap hown2 hown2' hbox2 hbk2 hi hz hs hby c5 Z
              go_wp2_with fail
              go_loopw [10] (fun i w3 => ∃ (s : Nat) (z : TV), i = .int .i64 (s : Nat) ∧ posU kv.1 L ≤ s ∧ s ≤ L.length ∧ w3.ownsRow w1.heap.size 79 2 (.slice (some ⟨g', 0, none⟩) (L.length + 1) cap') (L.length + 1) (cellsU (L.take s ++ z :: L.drop s)) ∧
                  Blk w3 wo.heap.size [.int .u32 (kv.1 : Int), .slice xa kv.2.length xcap] 79 ∧ Below w1.heap.size w1 w3) (fun i _ => (intOf i).toNat)
              case atStart =>
                obtain ⟨h1, h2, h3⟩ := Q6.out
                refine ⟨L.length, (0, .slice none 0 0, []), by go_num, posU_le _ _, Nat.le_refl _, ?_, h2, h3⟩
                rw [List.take_of_length_le (Nat.le_refl _), List.drop_of_length_le (Nat.le_refl _), cellsU_append]
                exact h1
              case round =>
                obtain ⟨s, z, rfl, hs1, hs2, hown3, hbox3, hbk3⟩ := hrel
                rename World => w3
                rcases Nat.lt_or_ge (posU kv.1 L) s with hlt | hge
                · obtain ⟨s', rfl⟩ : ∃ s', s = s' + 1 := ⟨s - 1, by omega⟩
                  have hsl : s' < L.length := by omega
                  obtain ⟨a0, a1⟩ := ownsU_cells hown3 shift_len.symm (shift_get hsl)
                  obtain ⟨b0, b1⟩ := ownsU_cells (i := s' + 1) (t := z) hown3 shift_len.symm (shift_at (by omega))
                  have f0 := hown3.frozenAt ((s' + 1) * 2)
                  have f1 := hown3.frozenAt ((s' + 1) * 2 + 1)
                  obtain ⟨la, lcap, hle, -⟩ := (hL _ (List.getElem_mem hsl)).2
                  rw [hle] at a1
                  have hsle : ((L[s'].1 : Nat) : Int) = (L[s'].1 : Int) := rfl
                  have e1 : (((s' + 1 : Nat) : Int)) = (s' : Int) + 1 := by omega
                  have st1 := hown3.stored ((s' + 1) * 2) (.int .u32 (L[s'].1 : Int))
                  have st2 := st1.1.stored ((s' + 1) * 2 + 1) (.slice la (L[s'].2.2).length lcap)
                  have hfin : ∃ (s : Nat) (z : TV), Value.int .i64 (s' : Int) = .int .i64 (s : Nat) ∧ posU kv.1 L ≤ s ∧ s ≤ L.length ∧ ((w3.setCell ⟨g', (s' + 1) * 2, none⟩ (.int .u32 (L[s'].1 : Int))).setCell ⟨g', (s' + 1) * 2 + 1, none⟩ (.slice la (L[s'].2.2).length lcap)).ownsRow w1.heap.size 79 2 (.slice (some ⟨g', 0, none⟩) (L.length + 1) cap') (L.length + 1) (cellsU (L.take s ++ z :: L.drop s)) ∧
                      Blk ((w3.setCell ⟨g', (s' + 1) * 2, none⟩ (.int .u32 (L[s'].1 : Int))).setCell ⟨g', (s' + 1) * 2 + 1, none⟩ (.slice la (L[s'].2.2).length lcap)) wo.heap.size [.int .u32 (kv.1 : Int), .slice xa kv.2.length xcap] 79 ∧ Below w1.heap.size w1 ((w3.setCell ⟨g', (s' + 1) * 2, none⟩ (.int .u32 (L[s'].1 : Int))).setCell ⟨g', (s' + 1) * 2 + 1, none⟩ (.slice la (L[s'].2.2).length lcap)) := by
                    refine ⟨s', L[s'], rfl, by omega, by omega, ?_, (hbox3.set_other (fun e => hne e.symm) _ _).set_other (fun e => hne e.symm) _ _, (hbk3.setCell (p := ⟨g', (s' + 1) * 2, none⟩) hg1 _).setCell (p := ⟨g', (s' + 1) * 2 + 1, none⟩) hg1 _⟩
                    have h := st2.1
                    have e2 := cellsU_set (L.take (s' + 1) ++ z :: L.drop (s' + 1)) (s' + 1) L[s'] (by rw [shift_len]; omega)
                    rw [hle, Nat.mul_comm 2 (s' + 1), shift_set hsl] at e2
                    rw [e2] at h
                    exact h
                  have FIN := Lib.hid hfin
                  clear hfin hown3 hbox3 hbk3 st1 st2 hle Q6
                  rw [e1] at *
                  go_wp2
                  go_roundw
                  case rel => exact FIN.out
                  case measure => simp [intOf]
                · obtain rfl : s = posU kv.1 L := by omega
                  obtain ⟨x0, x1⟩ : w3.cell? ⟨wo.heap.size, 0, none⟩ = some (.int .u32 (kv.1 : Int)) ∧ w3.cell? ⟨wo.heap.size, 1, none⟩ = some (.slice xa kv.2.length xcap) := ⟨hbox3.cell_some rfl, hbox3.cell_some rfl⟩
                  obtain ⟨b0, b1⟩ := ownsU_cells (i := posU kv.1 L) (t := z) hown3 shift_len.symm (shift_at (posU_le _ _))
                  have f0 := hown3.frozenAt (posU kv.1 L * 2)
                  have f1 := hown3.frozenAt (posU kv.1 L * 2 + 1)
                  have st1 := hown3.stored (posU kv.1 L * 2) (.int .u32 (kv.1 : Int))
                  have st2 := st1.1.stored (posU kv.1 L * 2 + 1) (.slice xa kv.2.length xcap)
                  have hlen : (L.take (posU kv.1 L) ++ (kv.1, Value.slice xa kv.2.length xcap, kv.2) :: L.drop (posU kv.1 L)).length = L.length + 1 := shift_len
                  have hfin : ∃ (k' : Nat) (L' : List TV), Value.int .i64 ((k : Int) + 1) = .int .i64 (k' : Nat) ∧ k' ≤ m ∧ ((w3.setCell ⟨g', posU kv.1 L * 2, none⟩ (.int .u32 (kv.1 : Int))).setCell ⟨g', posU kv.1 L * 2 + 1, none⟩ (.slice xa kv.2.length xcap)).ownsRow w1.heap.size 79 2 (.slice (some ⟨g', 0, none⟩) (L.length + 1) cap') L'.length (cellsU L') ∧ (L' = [] → Value.slice (some ⟨g', 0, none⟩) (L.length + 1) cap' = .slice none 0 0) ∧
                      bytesU L' = unkTo k' u ∧ TVs B w L' ∧ L'.length ≤ k' ∧ Below w1.heap.size w1 ((w3.setCell ⟨g', posU kv.1 L * 2, none⟩ (.int .u32 (kv.1 : Int))).setCell ⟨g', posU kv.1 L * 2 + 1, none⟩ (.slice xa kv.2.length xcap)) := by
                    refine ⟨k + 1, L.take (posU kv.1 L) ++ (kv.1, Value.slice xa kv.2.length xcap, kv.2) :: L.drop (posU kv.1 L), by go_num, by omega, ?_, fun h => by simp at h, ?_, ?_, by omega, (hbk3.setCell (p := ⟨g', posU kv.1 L * 2, none⟩) hg1 _).setCell (p := ⟨g', posU kv.1 L * 2 + 1, none⟩) hg1 _⟩
                    · have h := st2.1
                      have e2 := cellsU_set (L.take (posU kv.1 L) ++ z :: L.drop (posU kv.1 L)) (posU kv.1 L) (kv.1, Value.slice xa kv.2.length xcap, kv.2) (by rw [shift_len]; have := posU_le kv.1 L; omega)
                      rw [Nat.mul_comm 2 (posU kv.1 L), shift_fin (posU_le _ _)] at e2
                      rw [e2] at h
                      rw [hlen]
                      exact h
                    · rw [unkTo_succ hkv, ← hby, ← bytesU_ins (x := .slice xa kv.2.length xcap), insG_new hnew]
                    · rw [← insG_new (v := (Value.slice xa kv.2.length xcap, kv.2)) hnew]
                      intro t ht
                      rcases insG_mem ht with rfl | ht
                      · exact ⟨hkey, HX.out⟩
                      · exact hL t ht
                  have FIN := Lib.hid hfin
                  clear hfin hown3 hbox3 hbk3 st1 st2 Q6
                  go_wp2
                  go_roundw
                  case rel => exact FIN.out
                  case measure => simp [intOf]; omega
        · have hpos : j = posU kv.1 L := posU_eq kv.1 L j hj (fun t ht => by rw [List.getElem?_eq_none (by omega)] at ht; cases ht)
          have hnew : ∀ t, L[posU kv.1 L]? = some t → t.1 ≠ kv.1 := fun t ht => by rw [← hpos, List.getElem?_eq_none (by omega)] at ht; cases ht
          have Z := Lib.hid (show w2.drew.drew.ownsRow w1.heap.size 79 2 (.slice va L.length vcap) L.length (cellsU L) ∧ Blk w2.drew.drew wo.heap.size [.int .u32 (kv.1 : Int), .slice xa kv.2.length xcap] 79 ∧ Below w1.heap.size w1 w2.drew.drew from ⟨hown2, hbox2, hbk2.drew.drew⟩)
          subst hpos
          clear hown2 hbox2 hbk2 hbj
          go_wp2_with fail
          go_region
          have hkd : decide (((kv.1 : Nat) : Int) < 0) = false := by simp
          go_wp2_with fail
          go_region
          have hzz : w2.drew.drew.heap.size = w2.heap.size := rfl
          generalize w2.drew.drew = wz at *
          go_wp2_with (at_builtin; refine halted ?_)
          obtain ⟨hown2, hbox2, hbk2⟩ := Z.out
          obtain ⟨base2, hz1, hz2, hown2', hap⟩ := boxApart (b := wo.heap.size) (c0 := .int .u32 (kv.1 : Int)) (c1 := .slice xa kv.2.length xcap) hown2 hnil (by omega)
          have hs2 := hbox2.lt
          obtain ⟨i0, hi, hz, hs, hby⟩ := info_parts tagInfo
          have c5 := Blk.alloc_new wz [.int .u32 0, .slice none 0 0] 79
          have hzz' := hzz
          refine wpl_append_src (by rfl) (.tmp 59) (.tmp 61) 24 24 (by rfl) base2 79 i0 _ 2 32 Tryz.underlying24 hi hz hs hby (by rfl) (.slice va L.length vcap) L.length (cellsU L) (by rfl) (hown2'.alloc _) (.slice (some ⟨w2.heap.size, 0, none⟩) 1 1) 1 [.int .u32 0, .slice none 0 0] (by rfl)
            (Src.ofSlice _ Tryz.underlying24 _ 1 1 _ rfl ?_ ?_) (by unfold maxLen; omega) (by omega) (by simp; omega) ?_
          · intro i u hu
            rw [Addr.add_lit, ← hzz]
            exact c5.cell_some (by simpa using hu)
          · intro u hu
            simp only [List.mem_cons, List.not_mem_nil, or_false] at hu
            rcases hu with rfl | rfl <;> rfl
          intro v' w6 hown6 hg6 _
          have hb6 : Below w1.heap.size wz w6 := ((Below.refl w1.heap.size wz).alloc (by have := hbk2.size; omega) _).grown hg6 (by simp; have := hbk2.size; omega) (fun k hk => (hown2.lt k hk).1)
          have hbox6 : Blk w6 wo.heap.size [.int .u32 (kv.1 : Int), .slice xa kv.2.length xcap] 79 := by
            refine (hg6.block _ ?_ ?_).trans (hbox2.alloc _)
            · simp; omega
            · intro e
              exact hvb e.symm
          have hne := hap w6 v' _ hown6 hbox6
          have hown6 := ownsRow_mono hown6 hz1
          obtain ⟨g', cap', rfl, hg1, hg2⟩ := ownsRow_nz hown6 (by omega)
          have hne : g' ≠ wo.heap.size := fun e => hne (by simp [Value.ownBlock, e])
          have hbk6 : Below w1.heap.size w1 w6 := hbk2.trans hb6
          have Q6 := Lib.hid (And.intro hown6 (And.intro hbox6 hbk6))
          clear hown6 hbox6 hbk6 hb6 hg6 hap hown2 hown2' hbox2 hbk2 hi hz hs hby c5 Z
          go_wp2_with fail
          go_loopw [10] (fun i w3 => ∃ (s : Nat) (z : TV), i = .int .i64 (s : Nat) ∧ posU kv.1 L ≤ s ∧ s ≤ L.length ∧ w3.ownsRow w1.heap.size 79 2 (.slice (some ⟨g', 0, none⟩) (L.length + 1) cap') (L.length + 1) (cellsU (L.take s ++ z :: L.drop s)) ∧
              Blk w3 wo.heap.size [.int .u32 (kv.1 : Int), .slice xa kv.2.length xcap] 79 ∧ Below w1.heap.size w1 w3) (fun i _ => (intOf i).toNat)
          case atStart =>
            obtain ⟨h1, h2, h3⟩ := Q6.out
            refine ⟨L.length, (0, .slice none 0 0, []), by go_num, posU_le _ _, Nat.le_refl _, ?_, h2, h3⟩
            rw [List.take_of_length_le (Nat.le_refl _), List.drop_of_length_le (Nat.le_refl _), cellsU_append]
            exact h1
          case round =>
            obtain ⟨s, z, rfl, hs1, hs2, hown3, hbox3, hbk3⟩ := hrel
            rename World => w3
            rcases Nat.lt_or_ge (posU kv.1 L) s with hlt | hge
            · exfalso
              omega
            · obtain rfl : s = posU kv.1 L := by omega
              obtain ⟨x0, x1⟩ : w3.cell? ⟨wo.heap.size, 0, none⟩ = some (.int .u32 (kv.1 : Int)) ∧ w3.cell? ⟨wo.heap.size, 1, none⟩ = some (.slice xa kv.2.length xcap) := ⟨hbox3.cell_some rfl, hbox3.cell_some rfl⟩
              obtain ⟨b0, b1⟩ := ownsU_cells (i := posU kv.1 L) (t := z) hown3 shift_len.symm (shift_at (posU_le _ _))
              have f0 := hown3.frozenAt (posU kv.1 L * 2)
              have f1 := hown3.frozenAt (posU kv.1 L * 2 + 1)
              have st1 := hown3.stored (posU kv.1 L * 2) (.int .u32 (kv.1 : Int))
              have st2 := st1.1.stored (posU kv.1 L * 2 + 1) (.slice xa kv.2.length xcap)
              have hlen : (L.take (posU kv.1 L) ++ (kv.1, Value.slice xa kv.2.length xcap, kv.2) :: L.drop (posU kv.1 L)).length = L.length + 1 := shift_len
              have hfin : ∃ (k' : Nat) (L' : List TV), Value.int .i64 ((k : Int) + 1) = .int .i64 (k' : Nat) ∧ k' ≤ m ∧ ((w3.setCell ⟨g', posU kv.1 L * 2, none⟩ (.int .u32 (kv.1 : Int))).setCell ⟨g', posU kv.1 L * 2 + 1, none⟩ (.slice xa kv.2.length xcap)).ownsRow w1.heap.size 79 2 (.slice (some ⟨g', 0, none⟩) (L.length + 1) cap') L'.length (cellsU L') ∧ (L' = [] → Value.slice (some ⟨g', 0, none⟩) (L.length + 1) cap' = .slice none 0 0) ∧
                  bytesU L' = unkTo k' u ∧ TVs B w L' ∧ L'.length ≤ k' ∧ Below w1.heap.size w1 ((w3.setCell ⟨g', posU kv.1 L * 2, none⟩ (.int .u32 (kv.1 : Int))).setCell ⟨g', posU kv.1 L * 2 + 1, none⟩ (.slice xa kv.2.length xcap)) := by
                refine ⟨k + 1, L.take (posU kv.1 L) ++ (kv.1, Value.slice xa kv.2.length xcap, kv.2) :: L.drop (posU kv.1 L), by go_num, by omega, ?_, fun h => by simp at h, ?_, ?_, by omega, (hbk3.setCell (p := ⟨g', posU kv.1 L * 2, none⟩) hg1 _).setCell (p := ⟨g', posU kv.1 L * 2 + 1, none⟩) hg1 _⟩
                · have h := st2.1
                  have e2 := cellsU_set (L.take (posU kv.1 L) ++ z :: L.drop (posU kv.1 L)) (posU kv.1 L) (kv.1, Value.slice xa kv.2.length xcap, kv.2) (by rw [shift_len]; have := posU_le kv.1 L; omega)
                  rw [Nat.mul_comm 2 (posU kv.1 L), shift_fin (posU_le _ _)] at e2
                  rw [e2] at h
                  rw [hlen]
                  exact h
                · rw [unkTo_succ hkv, ← hby, ← bytesU_ins (x := .slice xa kv.2.length xcap), insG_new hnew]
                · rw [← insG_new (v := (Value.slice xa kv.2.length xcap, kv.2)) hnew]
                  intro t ht
                  rcases insG_mem ht with rfl | ht
                  · exact ⟨hkey, HX.out⟩
                  · exact hL t ht
              have FIN := Lib.hid hfin
              clear hfin hown3 hbox3 hbk3 st1 st2 Q6
              go_wp2
              go_roundw
              case rel => exact FIN.out
              case measure => simp [intOf]; omega
    · obtain rfl : k = m := by omega
      obtain ⟨va, vcap, rfl⟩ := ownsRow_shape hown
      have R := Lib.hid (And.intro hown (And.intro hL (And.intro hby hbk)))
      clear hown hL hby hbk
      go_wp2
      go_ret
      obtain ⟨hown, hL, hby, hbk⟩ := R.out
      have hbf := HB1.out.trans (hbk.mono (Nat.le_trans hb z1))
      refine ⟨_, rfl, ?_, hbf⟩
      have e : unk u = bytesU L := by rw [UNK.out, hby]
      rw [e]
      exact ownsU_rep hown (hL.below (hbf.mono hB)) (by have := hbf.size; omega)
end Go.Proofs.YtfchajjllhndlabGreatDoor

/- The reference's field that is a part which may be null. -/
namespace Go.Proofs.YtfchajjllhndlabGreatDoor
open Go Go.RowKit

theorem keep6 {n g : Nat} {w w' : World} {f7 v0 v1 v2 v3 v4 : Value} (hb : Below n w w') (hg : g + 1 < n)
    (h : w.cell? ⟨g, 7, none⟩ = some f7 ∧ w.cell? ⟨g + 1, 0, none⟩ = some v0 ∧ w.cell? ⟨g + 1, 1, none⟩ = some v1 ∧ w.cell? ⟨g + 1, 2, none⟩ = some v2 ∧ w.cell? ⟨g + 1, 3, none⟩ = some v3 ∧ w.cell? ⟨g + 1, 4, none⟩ = some v4) :
    w'.cell? ⟨g, 7, none⟩ = some f7 ∧ w'.cell? ⟨g + 1, 0, none⟩ = some v0 ∧ w'.cell? ⟨g + 1, 1, none⟩ = some v1 ∧ w'.cell? ⟨g + 1, 2, none⟩ = some v2 ∧ w'.cell? ⟨g + 1, 3, none⟩ = some v3 ∧ w'.cell? ⟨g + 1, 4, none⟩ = some v4 := by
  have k0 := fun i => hb.cell (p := ⟨g, i, none⟩) (by show g < n; omega)
  have k1 := fun i => hb.cell (p := ⟨g + 1, i, none⟩) hg
  exact ⟨(k0 7).trans h.1, (k1 0).trans h.2.1, (k1 1).trans h.2.2.1, (k1 2).trans h.2.2.2.1, (k1 3).trans h.2.2.2.2.1, (k1 4).trans h.2.2.2.2.2⟩
set_option maxRecDepth 100000 in
set_option maxHeartbeats 3200000 in
theorem spFieldOpt_null (fr to nu tg df ok : Int) (sub : PFs) (ver : Int) (flex : Bool) (t : Tree) (hnu : 0 ≤ nu) (hn : pNull nu ver t = true) : FieldC 10 fr to nu tg df ok sub ver flex t := by
  intro B base w fv c hB hb hf ht hl
  have e : pField ver flex 10 nu ok (pPart ver flex sub) t = fixed (-1) 1 := by simp [pField, hn, hnu]
  rw [e]
  clear e hl
  have NL := fun w' (hw : B ≤ w'.heap.size) (hr : RepT B w' c t) => spNullT 10 fr to nu tg df ok fv ver t c B w'.heap.size w' (Nat.le_refl _) hr
  rw [hn] at NL
  obtain ⟨sv, lv, uv, rfl, -, ⟨sa, sc, rfl, -⟩, ⟨la, lc, lf, rfl, -⟩, ⟨ua, uc, rfl, -⟩⟩ := ht.parts
  obtain ⟨fa, fcap, rfl, -⟩ := id hf
  have N := Lib.hid NL
  clear NL hn
  have hb1 := fun o => (Below.refl base w).alloc hb o
  have hb2 := fun o o' => (hb1 o).alloc (Nat.le_trans hb (by simp)) o'
  have H := Lib.hid (And.intro hf ht)
  clear hf ht
  have e1 : ∀ o o', ((w.alloc o).alloc o').heap.size = w.heap.size + 2 := by intro o o'; simp
  go_enter Tryz.func138, Tryz.ntmps138
  go_wp2_with fail
  refine (N.out _ (by rw [e1]; omega) (H.out.2.keep ((hb2 _ _).mono hB))).mono ?_
  rintro e w3 ⟨rfl, hb3⟩
  obtain ⟨x0, x1, x2, x3, x4, x5, x6, x7⟩ := boxF (((Blk.alloc_new w [.int .i64 10, .int .i64 fr, .int .i64 to, .int .i64 nu, .int .i64 tg, .int .i64 df, .int .i64 ok, .slice fa sub.len fcap] 48).alloc
    (.cells #[.int .i64 t.n, .slice sa t.s.length sc, .bool t.null, .slice la t.l.length lc, .slice ua t.u.length uc] 26)).below hb3 (by rw [e1]; omega))
  have hb4 := (hb2 _ _).trans (hb3.mono (by rw [e1]; omega))
  go_wp2_with fail
  refine (spFixed1 (-1) base w3 (Nat.le_trans hb hb4.size)).mono ?_
  rintro e w4 ⟨v4, rfl, hown, hb5⟩
  have FIN := Lib.hid (And.intro hown (hb4.trans hb5))
  clear hown hb5
  go_wp2
  go_ret
  exact .mk FIN.out.1 FIN.out.2
set_option maxRecDepth 100000 in
set_option maxHeartbeats 3200000 in
theorem spFieldOpt_some (fr to nu tg df ok : Int) (sub : PFs) (ver : Int) (flex : Bool) (t : Tree) (hnu : 0 ≤ nu) (hn : pNull nu ver t = false) (hp : PartC sub ver flex t) : FieldC 10 fr to nu tg df ok sub ver flex t := by
  intro B base w fv c hB hb hf ht hl
  have e : pField ver flex 10 nu ok (pPart ver flex sub) t = fixed 1 1 ++ pPart ver flex sub t := by simp [pField, hn, hnu]
  rw [e] at hl ⊢
  clear e
  have NL := fun w' (hw : B ≤ w'.heap.size) (hr : RepT B w' c t) => spNullT 10 fr to nu tg df ok fv ver t c B w'.heap.size w' (Nat.le_refl _) hr
  rw [hn] at NL
  obtain ⟨sv, lv, uv, rfl, -, ⟨sa, sc, rfl, -⟩, ⟨la, lc, lf, rfl, -⟩, ⟨ua, uc, rfl, -⟩⟩ := ht.parts
  obtain ⟨fa, fcap, rfl, -⟩ := id hf
  have N := Lib.hid NL
  have V := Lib.hid hp
  clear NL hn hp
  have hb1 := fun o => (Below.refl base w).alloc hb o
  have hb2 := fun o o' => (hb1 o).alloc (Nat.le_trans hb (by simp)) o'
  have H := Lib.hid (And.intro hf ht)
  clear hf ht
  have e1 : ∀ o o', ((w.alloc o).alloc o').heap.size = w.heap.size + 2 := by intro o o'; simp
  go_enter Tryz.func138, Tryz.ntmps138
  go_wp2_with fail
  refine (N.out _ (by rw [e1]; omega) (H.out.2.keep ((hb2 _ _).mono hB))).mono ?_
  rintro e w3 ⟨rfl, hb3⟩
  obtain ⟨x0, x1, x2, x3, x4, x5, x6, x7⟩ := boxF (((Blk.alloc_new w [.int .i64 10, .int .i64 fr, .int .i64 to, .int .i64 nu, .int .i64 tg, .int .i64 df, .int .i64 ok, .slice fa sub.len fcap] 48).alloc
    (.cells #[.int .i64 t.n, .slice sa t.s.length sc, .bool t.null, .slice la t.l.length lc, .slice ua t.u.length uc] 26)).below hb3 (by rw [e1]; omega))
  obtain ⟨y0, y1, y2, y3, y4⟩ := boxT ((Blk.alloc_new2 w (.cells #[.int .i64 10, .int .i64 fr, .int .i64 to, .int .i64 nu, .int .i64 tg, .int .i64 df, .int .i64 ok, .slice fa sub.len fcap] 48)
    [.int .i64 t.n, .slice sa t.s.length sc, .bool t.null, .slice la t.l.length lc, .slice ua t.u.length uc] 26).below hb3 (by rw [e1]; omega))
  have hb4 := (hb2 _ _).trans (hb3.mono (by rw [e1]; omega))
  have z3 : w.heap.size + 2 ≤ w3.heap.size := by have := hb3.size; rw [e1] at this; exact this
  have c : w3.drew.cell? ⟨w.heap.size, 7, none⟩ = some (.slice fa sub.len fcap) ∧ w3.drew.cell? ⟨w.heap.size + 1, 0, none⟩ = some (.int .i64 t.n) ∧ w3.drew.cell? ⟨w.heap.size + 1, 1, none⟩ = some (.slice sa t.s.length sc) ∧ w3.drew.cell? ⟨w.heap.size + 1, 2, none⟩ = some (.bool t.null) ∧ w3.drew.cell? ⟨w.heap.size + 1, 3, none⟩ = some (.slice la t.l.length lc) ∧ w3.drew.cell? ⟨w.heap.size + 1, 4, none⟩ = some (.slice ua t.u.length uc) := ⟨x7, y0, y1, y2, y3, y4⟩
  have C := Lib.hid (And.intro c hb4.drew)
  have zd : w3.drew.heap.size = w3.heap.size := rfl
  clear c hb4 hb3 y0 y1 y2 y3 y4
  go_wp2_with fail
  go_region_held3 (fun w' => w'.cell? ⟨w.heap.size, 7, none⟩ = some (.slice fa sub.len fcap) ∧ w'.cell? ⟨w.heap.size + 1, 0, none⟩ = some (.int .i64 t.n) ∧ w'.cell? ⟨w.heap.size + 1, 1, none⟩ = some (.slice sa t.s.length sc) ∧ w'.cell? ⟨w.heap.size + 1, 2, none⟩ = some (.bool t.null) ∧ w'.cell? ⟨w.heap.size + 1, 3, none⟩ = some (.slice la t.l.length lc) ∧ w'.cell? ⟨w.heap.size + 1, 4, none⟩ = some (.slice ua t.u.length uc))
    (first | exact C.out.1 | exact hS4 | exact hS5 | exact hS6)
    (first
      | (go_at_call 201; refine (spFixed1 1 w3.drew.heap.size w3.drew (Nat.le_refl _)).mono ?_; rintro e w4 ⟨v4, rfl, hown4, hb4⟩; have z4 := hb4.size; have hS4 := keep6 hb4 (by omega) C.out.1)
      | (go_at_call 58; refine (V.out B w4.heap.size w4 _ _ (by omega) (Nat.le_refl _) (H.out.1.below ((C.out.2.trans (hb4.mono (by omega))).mono hB)) (H.out.2.keep ((C.out.2.trans (hb4.mono (by omega))).mono hB)) (by simp only [List.length_append] at hl; omega)).mono ?_; rintro e w5 ⟨v5, rfl, hown5, hb5⟩; have z5 := hb5.size; have hS5 := keep6 hb5 (by omega) hS4)
      | (refine step_append_from bt rfl (.tmp 59) (.tmp 65) rfl w3.drew.heap.size _ (hown4.stay hb5 (Nat.le_refl _)) (by omega) _ (Src.ofRL (B := w5.heap.size) Tryz.underlying22 hown5.rl) (by rw [← List.length_append]; exact hl) ?_; intro v6 w6 hown6 hb6; have hS6 := keep6 hb6 (by omega) hS5))
  have zb := C.out.2.size
  have FIN := Lib.hid (And.intro (hown6.mono (show base ≤ w3.drew.heap.size by omega)) (C.out.2.trans (((hb4.mono (by omega)).trans (hb5.mono (by omega))).trans (hb6.mono (by omega)))))
  clear hown4 hown5 hown6 hb4 hb5 hb6 hS4 hS5 hS6
  go_wp2
  go_ret
  exact .mk FIN.out.1 FIN.out.2
end Go.Proofs.YtfchajjllhndlabGreatDoor

/- What the reference writes of a part. -/
namespace Go.Proofs.YtfchajjllhndlabGreatDoor
open Go Go.RowKit

/-- (Once: no part of it may be null; by now all are borne.) -/
def PFs.noOpt : PFs → Prop
  | .nil => True
  | .cons _ _ _ _ _ _ _ sub rest => True ∧ sub.noOpt ∧ rest.noOpt
/-- No unknown tags, to the bottom. -/
inductive NoU : Tree → Prop
  | mk (n : Int) (s : List UInt8) (null : Bool) (l : List Tree) (h : ∀ t, t ∈ l → NoU t) : NoU (.mk n s null l [])
theorem NoU.zero : NoU .zero := .mk 0 [] false [] (fun t h => by simp at h)
theorem NoU.u {t : Tree} (h : NoU t) : t.u = [] := by cases h; rfl
theorem NoU.mem {t t' : Tree} (h : NoU t) (hm : t' ∈ t.l) : NoU t' := by
  cases h with
  | mk n s null l h => exact h t' hm
theorem NoU.at {t : Tree} (h : NoU t) (i : Nat) : NoU (atT t i) := by
  unfold atT
  by_cases hi : i < t.l.length
  · rw [List.getD_eq_getElem?_getD, List.getElem?_eq_getElem hi]
    exact h.mem (List.getElem_mem hi)
  · rw [List.getD_eq_getElem?_getD, List.getElem?_eq_none (by omega)]
    exact .zero
/-- The function writes of fields what pPart says. -/
def PartAll (fs : PFs) : Prop := ∀ ver flex t, PartC fs ver flex t
/-- .. of those of all parts of fields. -/
def SubsAll : PFs → Prop
  | .nil => True
  | .cons _ _ _ _ _ _ _ sub rest => PartAll sub ∧ SubsAll rest

theorem spField (k fr to nu tg df ok : Int) (sub : PFs) (ver : Int) (flex : Bool) (t : Tree) (_ : True) (hp : PartAll sub) : FieldC k fr to nu tg df ok sub ver flex t := by
  by_cases hk : k = 11
  · subst hk
    cases hnl : pNull nu ver t
    · exact spFieldList_some fr to nu tg df ok sub ver flex t hnl fun t' _ => spValue ok sub false ver flex t' fun _ => hp ver flex t'
    · exact spFieldList_null fr to nu tg df ok sub ver flex t hnl
  · by_cases hn : k = 10 ∧ 0 ≤ nu
    · obtain ⟨rfl, hnu⟩ := hn
      cases hnl : pNull nu ver t
      · exact spFieldOpt_some fr to nu tg df ok sub ver flex t hnu hnl (hp ver flex t)
      · exact spFieldOpt_null fr to nu tg df ok sub ver flex t hnu hnl
    · exact spFieldVal k fr to nu tg df ok sub ver flex t hk hn (spValue k sub _ ver flex t fun _ => hp ver flex t)

theorem Left.start2 {B : Nat} {w : World} {fs : PFs} {a : Option Addr} {n cap : Nat} (h : RepF B w fs (.slice a n cap)) (ht : fs.noTag) :
    n ≤ 9223372036854775807 ∧ (n ≠ 0 → ∃ p q, a = some ⟨p, q, none⟩ ∧ p < B) ∧ Left B w a n 0 fs := by
  obtain ⟨rfl, h1, h2, h3⟩ := Left.start h ht
  refine ⟨h1, h2, ?_⟩
  cases fs with
  | nil => exact ⟨rfl, ht, fun _ _ _ => trivial⟩
  | cons => exact h3 (by simp [PFs.len])

theorem keep13 {n p b : Nat} {w w' : World} {v0 v1 v2 v3 v4 x0 x1 x2 x3 x4 x5 x6 x7 : Value} (hb : Below n w w') (hp : p < n) (hbb : b < n)
    (h : w.cell? ⟨p, 0, none⟩ = some v0 ∧ w.cell? ⟨p, 1, none⟩ = some v1 ∧ w.cell? ⟨p, 2, none⟩ = some v2 ∧ w.cell? ⟨p, 3, none⟩ = some v3 ∧ w.cell? ⟨p, 4, none⟩ = some v4 ∧
      w.cell? ⟨b, 0, none⟩ = some x0 ∧ w.cell? ⟨b, 1, none⟩ = some x1 ∧ w.cell? ⟨b, 2, none⟩ = some x2 ∧ w.cell? ⟨b, 3, none⟩ = some x3 ∧ w.cell? ⟨b, 4, none⟩ = some x4 ∧ w.cell? ⟨b, 5, none⟩ = some x5 ∧ w.cell? ⟨b, 6, none⟩ = some x6 ∧ w.cell? ⟨b, 7, none⟩ = some x7) :
    w'.cell? ⟨p, 0, none⟩ = some v0 ∧ w'.cell? ⟨p, 1, none⟩ = some v1 ∧ w'.cell? ⟨p, 2, none⟩ = some v2 ∧ w'.cell? ⟨p, 3, none⟩ = some v3 ∧ w'.cell? ⟨p, 4, none⟩ = some v4 ∧
      w'.cell? ⟨b, 0, none⟩ = some x0 ∧ w'.cell? ⟨b, 1, none⟩ = some x1 ∧ w'.cell? ⟨b, 2, none⟩ = some x2 ∧ w'.cell? ⟨b, 3, none⟩ = some x3 ∧ w'.cell? ⟨b, 4, none⟩ = some x4 ∧ w'.cell? ⟨b, 5, none⟩ = some x5 ∧ w'.cell? ⟨b, 6, none⟩ = some x6 ∧ w'.cell? ⟨b, 7, none⟩ = some x7 := by
  have hP : ∀ i, w'.cell? ⟨p, i, none⟩ = w.cell? ⟨p, i, none⟩ := fun i => hb.cell (p := ⟨p, i, none⟩) hp
  have hQ : ∀ i, w'.cell? ⟨b, i, none⟩ = w.cell? ⟨b, i, none⟩ := fun i => hb.cell (p := ⟨b, i, none⟩) hbb
  simp only [hP, hQ]
  exact h

theorem keep13c {p b : Nat} {w w' : World} {v0 v1 v2 v3 v4 x0 x1 x2 x3 x4 x5 x6 x7 : Value} (hP : ∀ i, w'.cell? ⟨p, i, none⟩ = w.cell? ⟨p, i, none⟩) (hQ : ∀ i, w'.cell? ⟨b, i, none⟩ = w.cell? ⟨b, i, none⟩)
    (h : w.cell? ⟨p, 0, none⟩ = some v0 ∧ w.cell? ⟨p, 1, none⟩ = some v1 ∧ w.cell? ⟨p, 2, none⟩ = some v2 ∧ w.cell? ⟨p, 3, none⟩ = some v3 ∧ w.cell? ⟨p, 4, none⟩ = some v4 ∧
      w.cell? ⟨b, 0, none⟩ = some x0 ∧ w.cell? ⟨b, 1, none⟩ = some x1 ∧ w.cell? ⟨b, 2, none⟩ = some x2 ∧ w.cell? ⟨b, 3, none⟩ = some x3 ∧ w.cell? ⟨b, 4, none⟩ = some x4 ∧ w.cell? ⟨b, 5, none⟩ = some x5 ∧ w.cell? ⟨b, 6, none⟩ = some x6 ∧ w.cell? ⟨b, 7, none⟩ = some x7) :
    w'.cell? ⟨p, 0, none⟩ = some v0 ∧ w'.cell? ⟨p, 1, none⟩ = some v1 ∧ w'.cell? ⟨p, 2, none⟩ = some v2 ∧ w'.cell? ⟨p, 3, none⟩ = some v3 ∧ w'.cell? ⟨p, 4, none⟩ = some v4 ∧
      w'.cell? ⟨b, 0, none⟩ = some x0 ∧ w'.cell? ⟨b, 1, none⟩ = some x1 ∧ w'.cell? ⟨b, 2, none⟩ = some x2 ∧ w'.cell? ⟨b, 3, none⟩ = some x3 ∧ w'.cell? ⟨b, 4, none⟩ = some x4 ∧ w'.cell? ⟨b, 5, none⟩ = some x5 ∧ w'.cell? ⟨b, 6, none⟩ = some x6 ∧ w'.cell? ⟨b, 7, none⟩ = some x7 := by
  simp only [hP, hQ]
  exact h
theorem step_append_far {P : Program} {w : World} {ops : Array Oper} {o : Oper} {a : Act} {K : Act → World → Prop} {Q : Exit → Act → World → Prop} {E : Prop} {t tx : TypeId} (T : BytesT P t 5) (hgd : o.guard = none) (s x : Operand)
    (ho : o.op = .call { callee := .builtin .append, args := #[s, x], argTypes := #[t, tx] }) (base : Nat) (bs : List UInt8) (hown : Own base w (a.eval s) bs) (hb : base ≤ w.heap.size)
    (bs' : List UInt8) (hsrc : Src P 1 tx (a.eval x) bs'.length (bs'.map byteV) w) (hl : bs.length + bs'.length ≤ lim)
    (h : ∀ v' w', Own base w' v' (bs ++ bs') → Below base w w' → (∀ g, g < w.heap.size → (a.eval s).ownBlock ≠ some g → w'.heap[g]? = w.heap[g]?) → K (a.put o.dst v') w') : if Region.wanted o (yielded ops a.tmps) = true then Oper.wp P o a w K Q else E := by
  have hw : Region.wanted o (yielded ops a.tmps) = true := by simp [Region.wanted, hgd]
  rw [if_pos hw]
  obtain ⟨i, hi, hz, hs, hby⟩ := T.info
  refine wp_append_src s x t tx ho base 5 i (.int .u8 0) 1 1 T.under hi hz hs hby rfl (a.eval s) bs.length (bs.map byteV) rfl hown _ bs'.length (bs'.map byteV) rfl hsrc (lim_max hl) (lim_room hl) hb ?_
  intro v' w' hown' hg _
  refine h v' w' ?_ ?_ (fun g hlt hne => hg.block g hlt (fun e => hne e.symm))
  · unfold Own
    simpa using hown'
  · exact (Below.refl _ _).grown hg hb (fun k hk => by
      have := hown.lt k hk
      omega)

theorem wpl_append_far {P : Program} {w : World} {ops : Array Oper} {rest : List Oper} {o : Oper} {a : Act} {Q : Exit → Act → World → Prop} {t tx : TypeId} (T : BytesT P t 5) (hgd : o.guard = none) (s x : Operand)
    (ho : o.op = .call { callee := .builtin .append, args := #[s, x], argTypes := #[t, tx] }) (base : Nat) (bs : List UInt8) (hown : Own base w (a.eval s) bs) (hb : base ≤ w.heap.size)
    (bs' : List UInt8) (hsrc : Src P 1 tx (a.eval x) bs'.length (bs'.map byteV) w) (hl : bs.length + bs'.length ≤ lim)
    (h : ∀ v' w', Own base w' v' (bs ++ bs') → Below base w w' → (∀ g, g < w.heap.size → (a.eval s).ownBlock ≠ some g → w'.heap[g]? = w.heap[g]?) → wpList P ops Q rest (a.put o.dst v') w') : wpList P ops Q (o :: rest) a w := by
  obtain ⟨i, hi, hz, hs, hby⟩ := T.info
  refine wpl_append_src hgd s x t tx ho base 5 i (.int .u8 0) 1 1 T.under hi hz hs hby rfl (a.eval s) bs.length (bs.map byteV) rfl hown _ bs'.length (bs'.map byteV) rfl hsrc (lim_max hl) (lim_room hl) hb ?_
  intro v' w' hown' hg _
  refine h v' w' ?_ ?_ (fun g hlt hne => hg.block g hlt (fun e => hne e.symm))
  · unfold Own
    simpa using hown'
  · exact (Below.refl _ _).grown hg hb (fun k hk => by
      have := hown.lt k hk
      omega)
theorem Own.apart {base : Nat} {w w' : World} {v : Value} {bs : List UInt8} (h : Own base w v bs) (hk : ∀ g, v.ownBlock = some g → w'.heap[g]? = w.heap[g]?) : Own base w' v bs := by
  refine ⟨h.1, ?_⟩
  rcases h.2 with hz | ⟨g, cap, cur, hv, hbg, hg, rest⟩
  · exact .inl hz
  · exact .inr ⟨g, cap, cur, hv, hbg, (hk g (by rw [hv]; rfl)).trans hg, rest⟩

theorem pFields_skip {ver : Int} {flex : Bool} {k fr to nu df ok : Int} {sub rest : PFs} {i : Nat} {t : Tree} (h : pHas fr to ver = false) : pFields ver flex (.cons k fr to nu (-1) df ok sub rest) i t = pFields ver flex rest (i + 1) t := by
  simp [pFields, h]
theorem pFields_take {ver : Int} {flex : Bool} {k fr to nu df ok : Int} {sub rest : PFs} {i : Nat} {t : Tree} (h : pHas fr to ver = true) :
    pFields ver flex (.cons k fr to nu (-1) df ok sub rest) i t = pField ver flex k nu ok (pPart ver flex sub) (atT t i) ++ pFields ver flex rest (i + 1) t := by
  simp only [pFields, h, Bool.and_true]
  rfl

set_option maxRecDepth 100000 in
set_option maxHeartbeats 6400000 in
theorem partOf (fs : PFs) (htag : fs.noTag) (hopt : fs.noOpt) (hsub : SubsAll fs) : PartAll fs := by
  intro ver flex t B base w fv c hB hb hf ht hl
  obtain ⟨fa, fcap, rfl, -⟩ := id hf
  obtain ⟨hmax, hne, L0⟩ := Left.start2 hf htag
  obtain ⟨n, hnn⟩ : ∃ n, fs.len = n := ⟨_, rfl⟩
  rw [hnn] at hmax hne L0 hf ⊢
  obtain ⟨sv, lv, uv, rfl, -, ⟨sa, sc, rfl, -⟩, ⟨la, lc, lf, rfl, -⟩, hU⟩ := ht.parts
  obtain ⟨ua, uc, rfl, -⟩ := id hU
  have hw2 := Blk.alloc_new w [.int .i64 t.n, .slice sa t.s.length sc, .bool t.null, .slice la t.l.length lc, .slice ua t.u.length uc] 26
  have hbw := (Below.refl base w).alloc hb (.cells #[.int .i64 t.n, .slice sa t.s.length sc, .bool t.null, .slice la t.l.length lc, .slice ua t.u.length uc] 26)
  have e1 : (w.alloc (.cells #[.int .i64 t.n, .slice sa t.s.length sc, .bool t.null, .slice la t.l.length lc, .slice ua t.u.length uc] 26)).heap.size = w.heap.size + 1 := by simp
  have H := Lib.hid (And.intro hw2 (And.intro hbw (And.intro e1 (And.intro hf (And.intro ht (And.intro hU (And.intro hne (And.intro L0 (And.intro hsub hopt)))))))))
  have HTAG := Lib.hid htag
  clear hw2 hbw e1 hf ht hU hne L0 hsub hopt htag
  go_enter Tryz.func58, Tryz.ntmps58
  go_wp2_with fail
  obtain ⟨w2, hw2e⟩ : ∃ w2, w2 = w.alloc (.cells #[.int .i64 t.n, .slice sa t.s.length sc, .bool t.null, .slice la t.l.length lc, .slice ua t.u.length uc] 26) := ⟨_, rfl⟩
  rw [← hw2e] at H ⊢
  clear hw2e
  go_loopw [9, 23] (fun v i wr => ∃ k gs X, i = .int .i64 (k : Nat) ∧ Own (w.heap.size + 1) wr v X ∧ X ++ pFields ver flex gs k t = pFields ver flex fs 0 t ∧ Left B w fa n k gs ∧ SubsAll gs ∧ gs.noOpt ∧ Below (w.heap.size + 1) w2 wr)
    (fun _ i _ => n - (intOf i).toNat)
  case atStart =>
    obtain ⟨hw2, hbw, e1, hf, ht, hU, hne, L0, hsub, hopt⟩ := H.out
    exact ⟨0, fs, [], rfl, Own.nil _ _, rfl, L0, hsub, hopt, Below.refl _ _⟩
  case round =>
    obtain ⟨k, gs, X, rfl, hown, hX, L, hsub, hopt, hbk⟩ := hrel
    obtain ⟨hw2, hbw, e1, hf, ht, hU, hne, -, -⟩ := H.out
    cases gs with
    | nil =>
      have hlen := L.len
      simp only [PFs.len, Nat.add_zero] at hlen
      subst hlen
      have hXe : X = pFields ver flex fs 0 t := by rw [← hX]; simp [pFields]
      have hww : w.heap.size + 1 ≤ wr.heap.size := by have := hbk.size; omega
      have hbwr : Below base w wr := hbw.trans (hbk.mono (by omega))
      clear hX L hsub hopt hne
      cases flex
      · have e : pPart ver false fs t = X := by rw [hXe]; simp [pPart, pTail]
        have R := Lib.hid (And.intro (show Own base wr u9 (pPart ver false fs t) by rw [e]; exact hown.mono (show base ≤ w.heap.size + 1 by omega)) hbwr)
        clear hbwr hown e hXe hw2 hbw e1 hf ht hU
        go_wp2
        go_ret
        exact .mk R.out.1 R.out.2
      · have uk2 := unk_len t.u
        obtain ⟨U, hUe⟩ : ∃ U, unk t.u = U := ⟨_, rfl⟩
        rw [hUe] at uk2
        have e : pPart ver true fs t = X ++ (uv U.length ++ U.flatMap pTag) := by rw [hXe]; simp only [pPart, pTail, if_true, hUe]
        have hlX : X.length + (uv U.length).length + (U.flatMap pTag).length ≤ lim := by
          rw [e, List.length_append, List.length_append] at hl
          omega
        have E := Lib.hid e
        clear e
        have K := Lib.hid (spKnown0 fs HTAG.out (.slice fa k fcap) B wr.heap.size wr (by omega) (Nat.le_refl _) (hf.below (hbwr.mono hB)))
        have R := Lib.hid (And.intro hown (And.intro hbwr (And.intro hf (And.intro hU (hw2.below hbk (by omega))))))
        clear hbwr hown hXe hw2 hbw e1 hf ht hU
        go_wp2_with fail
        refine K.out.mono ?_
        rintro e w6 ⟨rfl, hb6⟩
        go_wp2_with fail
        refine wp_loop_rounds 1 ?_
        rw [rounds_succ]
        obtain ⟨hown, hbwr, hf, hU, hT⟩ := R.out
        have z6 := hb6.size
        obtain ⟨t0, t1, t2, t3, t4⟩ := boxT (hT.below hb6 (by omega))
        have UK := spUnknown fs HTAG.out (.slice fa k fcap) (.slice ua t.u.length uc) t.u B w6.heap.size w6 (by omega) (Nat.le_refl _) (hf.below ((hbwr.trans (hb6.mono (by omega))).mono hB)) (hU.below ((hbwr.trans (hb6.mono (by omega))).mono hB))
        rw [hUe] at UK
        have UK := Lib.hid UK
        have R6 := Lib.hid (And.intro (hown.stay hb6 (Nat.le_refl _)) (hbwr.trans (hb6.mono (by omega))))
        clear hown hbwr hf hU hT hb6
        go_wp2_with fail
        refine UK.out.mono ?_
        rintro e w7 ⟨v7, rfl, hR7, hb7⟩
        have z7 := hb7.size
        obtain ⟨va, vcap, rfl, -, hvc, hvr⟩ := id hR7
        have R7 := Lib.hid (And.intro hvr (And.intro (R6.out.1.stay hb7 (Nat.le_refl _)) (R6.out.2.trans (hb7.mono (by omega)))))
        clear hR7 hvr hb7 UK K
        go_wp2_with fail
        go_loopw [10, 11, 102] (fun tv mv i wq => ∃ j : Nat, i = .int .i64 (j : Nat) ∧ mv = .int .i64 (j : Nat) ∧ j ≤ U.length ∧ Own w7.heap.size wq tv ((U.take j).flatMap pTag) ∧ Below w7.heap.size w7 wq)
          (fun _ _ i _ => U.length - (intOf i).toNat)
        case atStart => exact ⟨0, rfl, rfl, Nat.zero_le _, Own.nil _ _, Below.refl _ _⟩
        case round =>
          obtain ⟨j, rfl, rfl, hj, hownt, hbq⟩ := hrel
          rename World => wq
          have zq := hbq.size
          by_cases hjl : j < U.length
          · have hkv : U[j]? = some U[j] := List.getElem?_eq_getElem hjl
            obtain ⟨p, q, rfl, hp, hc⟩ := R7.out.1 (by intro e; rw [e] at hjl; simp at hjl)
            obtain ⟨c0, hkey, x, c1, hx⟩ := hc j _ hkv
            obtain ⟨xa, xcap, rfl, -⟩ := id hx
            rw [Nat.mul_comm 2 j] at c0 c1
            have d0 := (hbq.cell (p := ⟨p, q + j * 2, none⟩) hp).trans c0
            have d1 := (hbq.cell (p := ⟨p, q + j * 2 + 1, none⟩) hp).trans c1
            have hx1 := hx.below hbq
            have hkl : ((U.take (j + 1)).flatMap pTag).length ≤ (U.flatMap pTag).length := by
              conv => rhs; rw [← List.take_append_drop (j + 1) U]
              rw [List.flatMap_append, List.length_append]
              omega
            have htk : (U.take (j + 1)).flatMap pTag = (U.take j).flatMap pTag ++ (uv U[j].1 ++ uv (whole U[j].2).length ++ whole U[j].2) := by
              rw [List.take_add_one, hkv, List.flatMap_append]
              simp only [Option.toList_some, List.flatMap_cons, List.flatMap_nil, List.append_nil, pTag]
            have hwl : (whole U[j].2).length ≤ 32767 := by unfold whole; rw [List.length_take]; omega
            rw [htk] at hkl
            simp only [List.length_append] at hkl
            obtain ⟨ky, hky⟩ : ∃ ky, U[j].1 = ky := ⟨_, rfl⟩
            obtain ⟨sb, hsb⟩ : ∃ sb, U[j].2 = sb := ⟨_, rfl⟩
            rw [hky] at d0 hkey htk hkl
            rw [hsb] at d1 hx1 htk hkl hwl
            have hbw := fun o => (Below.refl wq.heap.size wq).alloc (Nat.le_refl _) o
            have HK := Lib.hid (And.intro hownt (And.intro hbq (And.intro hx1 htk)))
            clear hownt hbq hx hx1 htk c0 c1 hc
            go_wp2_with fail
            obtain ⟨wA, hwA⟩ : ∃ wA, wA = wq.alloc (.cells #[.int .u32 (ky : Int), .slice xa sb.length xcap] 79) := ⟨_, rfl⟩
            have bA : Below wq.heap.size wq wA := by rw [hwA]; exact hbw _
            have y0 : wA.cell? ⟨wq.heap.size, 0, none⟩ = some (.int .u32 (ky : Int)) := by rw [hwA]; exact (Blk.alloc_new wq [.int .u32 (ky : Int), .slice xa sb.length xcap] 79).cell_some (i := 0) rfl
            have y1 : wA.cell? ⟨wq.heap.size, 1, none⟩ = some (.slice xa sb.length xcap) := by rw [hwA]; exact (Blk.alloc_new wq [.int .u32 (ky : Int), .slice xa sb.length xcap] 79).cell_some (i := 1) rfl
            have zA : wA.heap.size = wq.heap.size + 1 := by rw [hwA]; simp
            rw [← hwA]
            clear hwA hbw
            refine (spWhole sb _ w7.heap.size wA (HK.out.2.2.1.below (bA.mono (by omega)))).mono ?_
            rintro e w' ⟨v', rfl, hv', rfl⟩
            obtain ⟨wa, wc, rfl, -⟩ := id hv'
            have HV := Lib.hid (And.intro hv' (HK.out.1.stay bA (Nat.le_refl _)))
            have hky2 : ((ky : Nat) : Int) ≤ 4294967295 := by omega
            have hwl2 : (((whole sb).length : Nat) : Int) ≤ 32767 := by omega
            clear hv' d0 d1
            go_wp2_with fail
            refine (spUvarint ky hkey wA.heap.size wA (Nat.le_refl _)).mono ?_
            rintro e wB ⟨x1, rfl, ho1, hb1⟩
            have zB := hb1.size
            go_wp2_with (at_builtin; refine halted ?_)
            refine wpl_append_from bt rfl _ _ rfl w7.heap.size _ (HV.out.2.stay hb1 (Nat.le_refl _)) (by omega) (uv ky) (Src.ofRL (B := wB.heap.size) Tryz.underlying22 ho1.rl) (by omega) ?_
            intro v2 w2 hown2 hb2
            have z2 := hb2.size
            clear ho1
            go_wp2_with fail
            refine (spUvarint (whole sb).length (by omega) w2.heap.size w2 (Nat.le_refl _)).mono ?_
            rintro e wC ⟨x3, rfl, ho3, hb3⟩
            have zC := hb3.size
            go_wp2_with (at_builtin; refine halted ?_)
            refine wpl_append_from bt rfl _ _ rfl w7.heap.size _ (hown2.stay hb3 (Nat.le_refl _)) (by omega) (uv (whole sb).length) (Src.ofRL (B := wC.heap.size) Tryz.underlying22 ho3.rl) (by rw [List.length_append]; omega) ?_
            intro v4 w4 hown4 hb4
            have z4 := hb4.size
            clear ho3 hown2
            have b14 : Below w7.heap.size wA w4 := (hb1.mono (by omega)).trans (hb2.trans ((hb3.mono (by omega)).trans hb4))
            go_wp2_with (at_builtin; refine halted ?_)
            refine wpl_append_from bt rfl _ _ rfl w7.heap.size _ hown4 (by omega) (whole sb) (Src.ofRL (B := w7.heap.size) Tryz.underlying22 (HV.out.1.below b14)) (by rw [List.length_append, List.length_append]; omega) ?_
            intro v5 w5 hown5 hb5
            have FIN := Lib.hid (show ∃ j' : Nat, Value.int .i64 ((j : Int) + 1) = .int .i64 (j' : Nat) ∧ Value.int .i64 ((j : Int) + 1) = .int .i64 (j' : Nat) ∧ j' ≤ U.length ∧ Own w7.heap.size w5 v5 ((U.take j').flatMap pTag) ∧ Below w7.heap.size w7 w5 from
              ⟨j + 1, by go_num, by go_num, by omega, by rw [HK.out.2.2.2]; simpa only [List.append_assoc] using hown5, HK.out.2.1.trans ((bA.mono (by omega)).trans (b14.trans hb5))⟩)
            clear hown5 hown4 hb1 hb2 hb3 hb4 hb5 b14 bA y0 y1 HV
            go_wp2
            go_roundw
            case rel => exact FIN.out
            case measure => simp [intOf]; omega
          · obtain rfl : j = U.length := by omega
            rw [List.take_of_length_le (Nat.le_refl _)] at hownt
            have RQ := Lib.hid (And.intro hownt (And.intro hbq (And.intro (R7.out.2.1.stay hbq (Nat.le_refl _)) (R7.out.2.2.trans (hbq.mono (by omega))))))
            clear hownt hbq
            go_wp2_with fail
            refine (spUvarint U.length (by omega) wq.heap.size wq (Nat.le_refl _)).mono ?_
            rintro e w8 ⟨v8, rfl, hown8, hb8⟩
            have z8 := hb8.size
            go_wp2_with (at_builtin; refine halted ?_)
            refine wpl_append_far bt rfl _ _ rfl (w.heap.size + 1) X (RQ.out.2.2.1.stay hb8 (Nat.le_refl _)) (by omega) (uv U.length) (Src.ofRL (B := w8.heap.size) Tryz.underlying22 hown8.rl) (by omega) ?_
            intro v9 w9 hown9 hb9 hg9
            have ht8 := RQ.out.1.stay hb8 (Nat.le_refl _)
            have ht9 := ht8.apart (w' := w9) (fun g hg => hg9 g (ht8.lt g hg).2 (fun e => by have h1 := R7.out.2.1.lt g e; have h2 := ht8.lt g hg; omega))
            have z9 := hb9.size
            go_wp2_with (at_builtin; refine halted ?_)
            refine wpl_append_from bt rfl _ _ rfl (w.heap.size + 1) _ hown9 (by omega) (U.flatMap pTag) (Src.ofRL (B := w9.heap.size) Tryz.underlying22 ht9.rl) (by rw [List.length_append]; omega) ?_
            intro v10 w10 hown10 hb10
            rw [List.append_assoc] at hown10
            have F := Lib.hid (And.intro (show Own base w10 v10 (pPart ver true fs t) by rw [E.out]; exact hown10.mono (show base ≤ w.heap.size + 1 by omega)) (((RQ.out.2.2.2).trans (hb8.mono (by omega))).trans ((hb9.mono (by omega)).trans (hb10.mono (by omega)))))
            clear hown10 hown9 hown8 hb8 hb9 hb10 R6 hg9 ht8 ht9
            go_wp2
            go_ret
            exact .mk F.out.1 F.out.2
    | cons kk fr to nu tg df ok sub rest =>
      have hlen := L.len
      simp only [PFs.len] at hlen
      have hkn : k < n := by omega
      obtain ⟨p, q, rfl, hp⟩ := hne (by omega)
      have hbwr : Below base w wr := hbw.trans (hbk.mono (by omega))
      obtain ⟨⟨h1, h2, h3, h4, h5, h6, h7⟩, ⟨v8, h8, a8, cap8, rfl, hf8⟩, hrest⟩ := (L.cells p q rfl).below (hbwr.mono hB) hp
      have hsubF : RepF B wr sub (.slice a8 sub.len cap8) := ⟨a8, cap8, rfl, hf8⟩
      obtain ⟨rfl, htags, htagr⟩ := L.noTag
      obtain ⟨ho1, ho2, ho3⟩ := hopt
      have hpw : p < wr.heap.size := by have := hbwr.size; omega
      have hww : w.heap.size + 1 ≤ wr.heap.size := by have := hbk.size; omega
      have hT := boxT (hw2.below hbk (by omega))
      have hF := boxF (Blk.alloc_new wr [.int .i64 kk, .int .i64 fr, .int .i64 to, .int .i64 nu, .int .i64 (-1), .int .i64 df, .int .i64 ok, .slice a8 sub.len cap8] 48)
      have hb5 := (Below.refl wr.heap.size wr).alloc (Nat.le_refl _) (.cells #[.int .i64 kk, .int .i64 fr, .int .i64 to, .int .i64 nu, .int .i64 (-1), .int .i64 df, .int .i64 ok, .slice a8 sub.len cap8] 48)
      have hs5 : (wr.alloc (.cells #[.int .i64 kk, .int .i64 fr, .int .i64 to, .int .i64 nu, .int .i64 (-1), .int .i64 df, .int .i64 ok, .slice a8 sub.len cap8] 48)).heap.size = wr.heap.size + 1 := by simp
      have HS := Lib.hid (spHas kk fr to nu (-1) df ok (.slice a8 sub.len cap8) ver (wr.heap.size + 1) (wr.alloc (.cells #[.int .i64 kk, .int .i64 fr, .int .i64 to, .int .i64 nu, .int .i64 (-1), .int .i64 df, .int .i64 ok, .slice a8 sub.len cap8] 48)) (by omega))
      have Z := Lib.hid (And.intro hsubF (And.intro L.next (And.intro hsub (And.intro ho1 (And.intro ho3 (And.intro hT (And.intro hF (And.intro hb5 (And.intro hs5 hown)))))))))
      clear hsubF L hsub ho1 ho2 ho3 hT hF hb5 hs5 htags htagr hrest hne hf hU
      cases hhas : pHas fr to ver
      · rw [hhas] at HS
        rw [pFields_skip hhas] at hX
        clear hhas
        go_wp2_with fail
        refine HS.out.mono ?_
        rintro e w6 ⟨rfl, hb6⟩
        obtain ⟨hsubF, Ln, hsub, ho1, ho3, hT, hF, hb5, hs5, hown⟩ := Z.out
        have hb7 : Below wr.heap.size wr w6 := hb5.trans (hb6.mono (by omega))
        have hfin : ∃ k' gs X', Value.int .i64 ((k : Int) + 1) = .int .i64 (k' : Nat) ∧ Own (w.heap.size + 1) w6 u9 X' ∧ X' ++ pFields ver flex gs k' t = pFields ver flex fs 0 t ∧ Left B w (some ⟨p, q, none⟩) n k' gs ∧ SubsAll gs ∧ gs.noOpt ∧ Below (w.heap.size + 1) w2 w6 :=
          ⟨k + 1, rest, X, rfl, hown.stay hb7 (Nat.le_refl _), hX, Ln, hsub.2, ho3, hbk.trans (hb7.mono hww)⟩
        have FIN := Lib.hid hfin
        clear hfin hsubF Ln hsub ho1 ho3 hT hF hb5 hs5 hown hb6 hb7
        go_wp2
        go_roundw
        case rel => exact FIN.out
        case measure => simp [intOf]; omega
      · rw [hhas] at HS
        rw [pFields_take hhas] at hX
        clear hhas
        go_wp2_with fail
        refine HS.out.mono ?_
        rintro e w6 ⟨rfl, hb6⟩
        obtain ⟨hsubF, Ln, hsub, ho1, ho3, hT, hF, hb5, hs5, hown⟩ := Z.out
        have hb7 : Below wr.heap.size wr w6 := hb5.trans (hb6.mono (by omega))
        have hs6 : wr.heap.size + 1 ≤ w6.heap.size := by have := hb6.size; omega
        have FC := Lib.hid (spField kk fr to nu (-1) df ok sub ver flex (atT t k) ho1 hsub.1)
        have hlX : X.length + (pField ver flex kk nu ok (pPart ver flex sub) (atT t k)).length ≤ lim := by
          have e := congrArg List.length hX
          unfold pPart at hl
          simp only [List.length_append] at e hl
          omega
        have c : w6.drew.cell? ⟨w.heap.size, 0, none⟩ = some (.int .i64 t.n) ∧ w6.drew.cell? ⟨w.heap.size, 1, none⟩ = some (.slice sa t.s.length sc) ∧ w6.drew.cell? ⟨w.heap.size, 2, none⟩ = some (.bool t.null) ∧
            w6.drew.cell? ⟨w.heap.size, 3, none⟩ = some (.slice la t.l.length lc) ∧ w6.drew.cell? ⟨w.heap.size, 4, none⟩ = some (.slice ua t.u.length uc) ∧
            w6.drew.cell? ⟨wr.heap.size, 0, none⟩ = some (.int .i64 kk) ∧ w6.drew.cell? ⟨wr.heap.size, 1, none⟩ = some (.int .i64 fr) ∧ w6.drew.cell? ⟨wr.heap.size, 2, none⟩ = some (.int .i64 to) ∧ w6.drew.cell? ⟨wr.heap.size, 3, none⟩ = some (.int .i64 nu) ∧
            w6.drew.cell? ⟨wr.heap.size, 4, none⟩ = some (.int .i64 (-1)) ∧ w6.drew.cell? ⟨wr.heap.size, 5, none⟩ = some (.int .i64 df) ∧ w6.drew.cell? ⟨wr.heap.size, 6, none⟩ = some (.int .i64 ok) ∧ w6.drew.cell? ⟨wr.heap.size, 7, none⟩ = some (.slice a8 sub.len cap8) := by
          obtain ⟨t0, t1, t2, t3, t4⟩ := hT
          obtain ⟨f0, f1, f2, f3, f4, f5, f6, f7⟩ := hF
          have hP : ∀ i, w6.cell? ⟨w.heap.size, i, none⟩ = wr.cell? ⟨w.heap.size, i, none⟩ := fun i => hb7.cell (p := ⟨w.heap.size, i, none⟩) (by show w.heap.size < wr.heap.size; omega)
          have hQ := fun i => hb6.cell (p := ⟨wr.heap.size, i, none⟩) (by show wr.heap.size < wr.heap.size + 1; omega)
          exact ⟨(hP 0).trans t0, (hP 1).trans t1, (hP 2).trans t2, (hP 3).trans t3, (hP 4).trans t4, (hQ 0).trans f0, (hQ 1).trans f1, (hQ 2).trans f2, (hQ 3).trans f3, (hQ 4).trans f4, (hQ 5).trans f5, (hQ 6).trans f6, (hQ 7).trans f7⟩
        have D : ∀ n, Below n w6 w6.drew := fun n => (Below.refl n w6).drew
        have HT6 := Lib.hid (And.intro (ht.keep ((hbwr.trans (hb7.mono (by omega))).mono hB |>.trans (D _))) (hsubF.below ((hb7.mono (by omega)).trans (D B))))
        have hown6 := Lib.hid (And.intro ((hown.stay hb7 (Nat.le_refl _)).drew) (hown.lt))
        have hds : w6.drew.heap.size = w6.heap.size := rfl
        have hC := Lib.hid c
        have hB7 := Lib.hid (And.intro hb7 D)
        clear c D HS hT hF hb5 hb6 hb7 hown hsubF
        go_wp2_with fail
        go_region_held3 (fun w' => w'.cell? ⟨w.heap.size, 0, none⟩ = some (.int .i64 t.n) ∧ w'.cell? ⟨w.heap.size, 1, none⟩ = some (.slice sa t.s.length sc) ∧ w'.cell? ⟨w.heap.size, 2, none⟩ = some (.bool t.null) ∧
            w'.cell? ⟨w.heap.size, 3, none⟩ = some (.slice la t.l.length lc) ∧ w'.cell? ⟨w.heap.size, 4, none⟩ = some (.slice ua t.u.length uc) ∧
            w'.cell? ⟨wr.heap.size, 0, none⟩ = some (.int .i64 kk) ∧ w'.cell? ⟨wr.heap.size, 1, none⟩ = some (.int .i64 fr) ∧ w'.cell? ⟨wr.heap.size, 2, none⟩ = some (.int .i64 to) ∧ w'.cell? ⟨wr.heap.size, 3, none⟩ = some (.int .i64 nu) ∧
            w'.cell? ⟨wr.heap.size, 4, none⟩ = some (.int .i64 (-1)) ∧ w'.cell? ⟨wr.heap.size, 5, none⟩ = some (.int .i64 df) ∧ w'.cell? ⟨wr.heap.size, 6, none⟩ = some (.int .i64 ok) ∧ w'.cell? ⟨wr.heap.size, 7, none⟩ = some (.slice a8 sub.len cap8))
          (first
            | exact hC.out | exact hS7 | exact hS8 | exact hS9)
          (first
            | (go_at_call 139; refine (spAt t _ k B w6.drew.heap.size w6.drew (by omega) (Nat.le_refl _) HT6.out.1 (by omega)).mono ?_; rintro e w7 ⟨c7, rfl, ht7, hb8⟩; have hS7 := keep13c (fun i => hb8.cell (p := ⟨w.heap.size, i, none⟩) (by show w.heap.size < w6.heap.size; omega)) (fun i => hb8.cell (p := ⟨wr.heap.size, i, none⟩) (by show wr.heap.size < w6.heap.size; omega)) hC.out)
            | (go_at_call 138; refine (FC.out B w7.heap.size w7 _ c7 (by have := hb8.size; omega) (Nat.le_refl _) (HT6.out.2.below (hb8.mono (by omega))) ht7 (by omega)).mono ?_; rintro e w8 ⟨v8', rfl, hown8, hb9⟩; have hS8 := keep13c (fun i => hb9.cell (p := ⟨w.heap.size, i, none⟩) (by have := hb8.size; show w.heap.size < w7.heap.size; omega)) (fun i => hb9.cell (p := ⟨wr.heap.size, i, none⟩) (by have := hb8.size; show wr.heap.size < w7.heap.size; omega)) hS7)
            | (refine step_append_far bt rfl (.tmp 36) (.tmp 43) rfl (w.heap.size + 1) X ((hown6.out.1.stay hb8 (Nat.le_refl _)).stay hb9 (Nat.le_refl _)) (by have := hb8.size; have := hb9.size; omega) _ (Src.ofRL (B := w8.heap.size) Tryz.underlying22 (hown8.rl)) hlX ?_; intro v9 w9 hown9 hb10 hg10; have hS9 := keep13c (w := w8) (w' := w9) (p := w.heap.size) (b := wr.heap.size) (fun i => hb10.cell (p := ⟨w.heap.size, i, none⟩) (by show w.heap.size < w.heap.size + 1; omega)) (by have z8 := hb8.size; have z9 := hb9.size; intro i; refine World.cell?_of_block (a := ⟨wr.heap.size, i, none⟩) ?_; refine hg10 wr.heap.size (by omega) ?_; intro e; exact Nat.lt_irrefl _ (hown6.out.2 _ e).2) hS8))
        have hbfin : Below (w.heap.size + 1) wr w9 := (hB7.out.1.mono hww).trans ((hB7.out.2 _).trans ((hb8.mono (by omega)).trans ((hb9.mono (by have := hb8.size; omega)).trans hb10)))
        have hfin : ∃ k' gs X', Value.int .i64 ((k : Int) + 1) = .int .i64 (k' : Nat) ∧ Own (w.heap.size + 1) w9 v9 X' ∧ X' ++ pFields ver flex gs k' t = pFields ver flex fs 0 t ∧ Left B w (some ⟨p, q, none⟩) n k' gs ∧ SubsAll gs ∧ gs.noOpt ∧ Below (w.heap.size + 1) w2 w9 :=
          ⟨k + 1, rest, _, rfl, hown9, by rw [List.append_assoc]; exact hX, Ln, hsub.2, ho3, hbk.trans hbfin⟩
        have FIN := Lib.hid hfin
        clear hfin Ln hsub ho1 ho3 hbfin hown9 hb10 hg10 hb8 hb9 hown8
        go_wp2
        go_roundw
        case rel => exact FIN.out
        case measure => simp [intOf]; omega
end Go.Proofs.YtfchajjllhndlabGreatDoor

/- The reference's Write, Same; the law's version. -/
namespace Go.Proofs.YtfchajjllhndlabGreatDoor
open Go Go.RowKit
set_option linter.unusedVariables false

mutual
theorem partAll : ∀ fs : PFs, fs.noTag → fs.noOpt → PartAll fs
  | .nil, h, h' => partOf .nil h h' trivial
  | .cons k fr to nu tg df ok sub rest, h, h' => partOf (.cons k fr to nu tg df ok sub rest) h h' ⟨partAll sub h.2.1 h'.2.1, subsAll rest h.2.2 h'.2.2⟩
theorem subsAll : ∀ fs : PFs, fs.noTag → fs.noOpt → SubsAll fs
  | .nil, _, _ => trivial
  | .cons _ _ _ _ _ _ _ sub rest, h, h' => ⟨partAll sub h.2.1 h'.2.1, subsAll rest h.2.2 h'.2.2⟩
end

set_option maxRecDepth 100000 in
set_option maxHeartbeats 1600000 in
theorem spWrite (fs : PFs) (htag : fs.noTag) (hopt : fs.noOpt) (ver fl : Int) (t : Tree) (flex : Bool) (hfl : flex = (decide (0 ≤ fl) && decide (fl ≤ ver))) (B base : Nat) (w : World) (fv : Value) (c : List Value) (hB : B ≤ base) (hb : base ≤ w.heap.size)
    (hf : RepF B w fs fv) (ht : RepT B w c t) (hl : (pPart ver flex fs t).length ≤ lim) :
    Gives Tryz.prog 17 #[.agg #[fv, .int .i64 fl], .int .i64 ver, .agg c.toArray] w base (pPart ver flex fs t) := by
  obtain ⟨sv, lv, uv, rfl, -, ⟨sa, sc, rfl, -⟩, ⟨la, lc, lf, rfl, -⟩, ⟨ua, uc, rfl, -⟩⟩ := ht.parts
  obtain ⟨fa, fcap, rfl, -⟩ := id hf
  have hb1 := fun o => (Below.refl base w).alloc hb o
  have hb2 := fun o o' => (hb1 o).alloc (Nat.le_trans hb (by simp)) o'
  have P := Lib.hid (fun w' (h : Below base w w') => partAll fs htag hopt ver flex t B base w' (.slice fa fs.len fcap) _ hB (Nat.le_trans hb h.size) (hf.below (h.mono hB)) (ht.keep (h.mono hB)) hl)
  clear hf ht hl
  by_cases h0 : 0 ≤ fl <;> by_cases h1 : fl ≤ ver <;> simp [h0, h1] at hfl <;> subst hfl <;>
  · go_enter Tryz.func17, Tryz.ntmps17
    go_wp2_with fail
    refine (P.out _ (hb2 _ _)).mono ?_
    rintro e w' ⟨v', rfl, hown, hbel⟩
    go_wp2
    go_ret
    exact .mk hown ((hb2 _ _).trans hbel)

set_option maxRecDepth 100000 in
set_option maxHeartbeats 1600000 in
theorem spSame (bs : List UInt8) (x y : Value) (B base : Nat) (w : World) (hb : base ≤ w.heap.size) (hx : RL B w x bs) (hy : RL B w y bs) (hBw : B ≤ base) : Says Tryz.prog 21 #[x, y] w base (.bool true) := by
  obtain ⟨a, cap, rfl, h1, h2, h3⟩ := hx
  obtain ⟨a', cap', rfl, h1', h2', h3'⟩ := hy
  by_cases hne : bs = []
  · subst hne
    clear h3 h3'
    go_enter Tryz.func21, Tryz.ntmps21
    go_wp2_with fail
    refine wp_loop_rounds 1 ?_
    rw [rounds_succ]
    go_wp2
    go_ret
    exact ⟨rfl, Below.refl _ _⟩
  obtain ⟨p, q, rfl, hp, hc⟩ := h3 hne
  obtain ⟨p', q', rfl, hp', hc'⟩ := h3' hne
  have H := Lib.hid (And.intro hc hc')
  clear hc hc' h3 h3' hne
  obtain ⟨n, hn⟩ : ∃ n, bs.length = n := ⟨_, rfl⟩
  rw [hn] at h1 h1' ⊢
  go_enter Tryz.func21, Tryz.ntmps21
  go_wp2_with fail
  go_loopw [13] (fun i wr => ∃ k : Nat, k ≤ n ∧ i = .int .i64 k ∧ Below base w wr) (fun i _ => n - (intOf i).toNat)
  case atStart => exact ⟨0, Nat.zero_le _, rfl, Below.refl _ _⟩
  case round =>
    obtain ⟨k, hk, rfl, hbk⟩ := hrel
    by_cases hkn : k < n
    · obtain ⟨u, hu⟩ : ∃ u, bs[k]? = some u := ⟨bs[k], List.getElem?_eq_getElem (by omega)⟩
      have c1 := (hbk.cell (p := ⟨p, q + k, none⟩) (by show p < base; omega)).trans (H.out.1 k u hu)
      have c2 := (hbk.cell (p := ⟨p', q' + k, none⟩) (by show p' < base; omega)).trans (H.out.2 k u hu)
      have FIN := Lib.hid hbk.drew
      clear hbk hu
      unfold byteV at c1 c2
      generalize (u.toNat : Int) = z at *
      go_wp2_with fail
      go_region_held3 (fun w' => w'.cell? ⟨p, q + k, none⟩ = some (.int .u8 z) ∧ w'.cell? ⟨p', q' + k, none⟩ = some (.int .u8 z)) (first | exact ⟨c1, c2⟩) (first | fail)
      go_wp2
      go_roundw
      case rel => exact ⟨k + 1, by omega, by go_num, FIN.out⟩
      case measure => simp [intOf]; omega
    · have : k = n := by omega
      subst this
      go_wp2
      go_ret
      exact ⟨rfl, hbk⟩

set_option maxHeartbeats 400000 in
theorem lawVersion (n most : Int) (h0 : 0 ≤ n) (h1 : n ≤ 255) (h2 : 0 ≤ most) (h3 : most ≤ 255) (w : World) : Calls Tryz.prog 19 #[.int .u8 n, .int .i64 most] w fun e w' => e = .returned (.int .i64 (n % (most + 1))) ∧ w = w' := by
  go_enter Tryz.func19, Tryz.ntmps19
  go_wp2
  go_ret
  exact ⟨rfl, rfl⟩
end Go.Proofs.YtfchajjllhndlabGreatDoor

/- Fields that are laid new; a message that is handed back. -/
namespace Go.Proofs.YtfchajjllhndlabGreatDoor
open Go Go.RowKit

theorem RepFC.mono {B B' : Nat} {w : World} (hB : B ≤ B') : ∀ {fs : PFs} {p q : Nat}, RepFC B w fs p q → RepFC B' w fs p q
  | .nil, _, _, _ => trivial
  | .cons _ _ _ _ _ _ _ sub rest, p, q, h => by
    obtain ⟨h1, ⟨v, h8, a, cap, h9, hle, h10⟩, h11⟩ := h
    refine ⟨h1, ⟨v, h8, a, cap, h9, hle, fun hn => ?_⟩, RepFC.mono hB h11⟩
    obtain ⟨p', q', ha, hp', hr⟩ := h10 hn
    exact ⟨p', q', ha, by omega, RepFC.mono hB hr⟩
theorem RepF.up {B : Nat} {w w' : World} {fs : PFs} {v : Value} (h : RepF B w fs v) (hk : Below B w w') (hB : B ≤ w'.heap.size) : RepF w'.heap.size w' fs v := by
  obtain ⟨a, cap, hv, hle, h⟩ := h.below hk
  refine ⟨a, cap, hv, hle, fun hn => ?_⟩
  obtain ⟨p, q, ha, hp, hr⟩ := h hn
  exact ⟨p, q, ha, by omega, hr.mono hB⟩
theorem RepF.upB {B B' : Nat} {w : World} {fs : PFs} {v : Value} (h : RepF B w fs v) (hB : B ≤ B') : RepF B' w fs v := by
  obtain ⟨a, cap, hv, hle, h⟩ := h
  refine ⟨a, cap, hv, hle, fun hn => ?_⟩
  obtain ⟨p, q, ha, hp, hr⟩ := h hn
  exact ⟨p, q, ha, by omega, hr.mono hB⟩
/-- Fields never lie in a block of two cells. -/
theorem RepFC.other {B g T i : Nat} {w : World} {c0 c1 v : Value} (hg : Blk w g [c0, c1] T) : ∀ {fs : PFs} {p q : Nat}, RepFC B w fs p q → RepFC B (w.setCell ⟨g, i, none⟩ v) fs p q
  | .nil, _, _, _ => trivial
  | .cons _ _ _ _ _ _ _ sub rest, p, q, h => by
    obtain ⟨⟨h1, h2, h3, h4, h5, h6, h7⟩, ⟨x, h8, a, cap, h9, hle, h10⟩, h11⟩ := h
    have hne : p ≠ g := by
      intro e
      subst e
      rw [hg.cell] at h8
      simp at h8
    have hc : ∀ j, (w.setCell ⟨g, i, none⟩ v).cell? ⟨p, j, none⟩ = w.cell? ⟨p, j, none⟩ := fun j => World.cell?_of_block (Below.heap_setCell _ _ _ _ hne)
    refine ⟨⟨(hc _).trans h1, (hc _).trans h2, (hc _).trans h3, (hc _).trans h4, (hc _).trans h5, (hc _).trans h6, (hc _).trans h7⟩, ⟨x, (hc _).trans h8, a, cap, h9, hle, fun hn => ?_⟩, RepFC.other hg h11⟩
    obtain ⟨p', q', ha, hp', hr⟩ := h10 hn
    exact ⟨p', q', ha, hp', RepFC.other hg hr⟩
theorem RepF.other {B g T i : Nat} {w : World} {c0 c1 v x : Value} {fs : PFs} (h : RepF B w fs x) (hg : Blk w g [c0, c1] T) : RepF B (w.setCell ⟨g, i, none⟩ v) fs x := by
  obtain ⟨a, cap, hv, hle, h⟩ := h
  refine ⟨a, cap, hv, hle, fun hn => ?_⟩
  obtain ⟨p, q, ha, hp, hr⟩ := h hn
  exact ⟨p, q, ha, hp, hr.other hg⟩
theorem msgUnder : ∃ fs, Tryz.prog.underlying 32 = some (.struct fs) := ⟨_, Tryz.underlying32⟩
theorem msgSize : (Tryz.prog.info? 32).map (·.size) = some 2 := by kernel_rfl
theorem ret_msg {fn : Func} {p : Tmp} {R : Ending → World → Prop} {a : Act} {w : World} {g : Nat} {c0 c1 : Value} (hr : fn.results = #[.cell p 32]) (hp : a.tmps.getD p undef = .pointer (some ⟨g, 0, none⟩))
    (hg : Blk w g [c0, c1] 32) (hd : a.defers = []) (h : R (.returned (.agg #[c0, c1])) w) : bodyPost Tryz.prog fn R .ret a w := by
  obtain ⟨fs, hu⟩ := msgUnder
  exact bodyPost_ret_by (results_cell_row hr _ _ g _ _ (0, 0) _ hp hg hu rfl (by rw [msgSize]; rfl)) hd h
/-- The function hands back these fields, laid new. -/
def GivesF (f : Nat) (fs : PFs) : Prop := ∀ w : World, Calls Tryz.prog f #[] w fun e w' => ∃ v, e = .returned v ∧ RepF w'.heap.size w' fs v ∧ Below w.heap.size w w'
/-- The function hands back this message. -/
def GivesM (f : Nat) (fs : PFs) (flex : Int) : Prop := ∀ w : World, Calls Tryz.prog f #[] w fun e w' => ∃ v, e = .returned (.agg #[v, .int .i64 flex]) ∧ RepF w'.heap.size w' fs v ∧ Below w.heap.size w w'
theorem uuid0 {O : List Nat} {w : World} {b T o : Nat} {c : List Value} (h : Blk w b c T) (hc : ∀ i, i < 16 → c[o + i]? = some (.int .u8 0)) (flex : Bool) : RepLeaf O w flex b o .uuid (.bytes (List.replicate 16 0)) := by
  refine ⟨rfl, fun i u hu => ?_⟩
  have hi : i < 16 := by simpa using (List.getElem?_eq_some_iff.1 hu).1
  have e : u = 0 := by
    rw [List.getElem?_replicate] at hu
    simp [hi] at hu
    exact hu.symm
  subst e
  exact h.cell_some (hc i hi)
theorem keep2 {n g : Nat} {w w' : World} {v0 v1 : Value} (hb : Below n w w') (hg : g < n) (h : w.cell? ⟨g, 0, none⟩ = some v0 ∧ w.cell? ⟨g, 1, none⟩ = some v1) : w'.cell? ⟨g, 0, none⟩ = some v0 ∧ w'.cell? ⟨g, 1, none⟩ = some v1 :=
  ⟨(hb.cell (p := ⟨g, 0, none⟩) hg).trans h.1, (hb.cell (p := ⟨g, 1, none⟩) hg).trans h.2⟩
theorem Below.grownW {w w' : World} (h : Below w.heap.size w w') (hf : ∀ a, w'.frozen? a = w.frozen? a) : Grown w w' := ⟨h.frame _, hf, h.size⟩
end Go.Proofs.YtfchajjllhndlabGreatDoor

/- The law's own tests of size: they answer, and turn nothing. -/
namespace Go.Proofs.YtfchajjllhndlabGreatDoor
open Go Go.RowKit
set_option linter.unusedVariables false

/-- An answer: true or false. -/
def Bo (e : Ending) : Prop := ∃ b, e = .returned (.bool b)
theorem Bo.mk (b : Bool) : Bo (.returned (.bool b)) := ⟨b, rfl⟩
/-- Function f answers true or false; below base nothing has turned. -/
def Asks (P : Program) (f : Nat) (args : Array Value) (w : World) (base : Nat) : Prop := Calls P f args w fun e w' => Bo e ∧ Below base w w'

set_option maxHeartbeats 800000 in
theorem zFits4 (k : Int) (a : Option Addr) (n cap : Nat) (base : Nat) (w : World) (hb : base ≤ w.heap.size) : Asks Tryz.prog 135 #[.agg #[.int .u32 k, .slice a n cap]] w base := by
  have hbel := (Below.refl base w).alloc hb
  by_cases h : (2147483647 : Int) < (n : Nat)
  · go_enter Tryz.func135, Tryz.ntmps135
    go_wp2
    go_ret
    exact ⟨.mk _, hbel _⟩
  · go_enter Tryz.func135, Tryz.ntmps135
    go_wp2
    go_ret
    exact ⟨.mk _, hbel _⟩
set_option maxHeartbeats 1600000 in
theorem zFits3 (u : List (Nat × List UInt8)) (uv : Value) (B base : Nat) (w : World) (hB : B ≤ base) (hb : base ≤ w.heap.size) (hu : RepU B w u uv) : Asks Tryz.prog 55 #[uv] w base := by
  obtain ⟨a, cap, rfl, h1, h2, hr⟩ := hu
  have H := Lib.hid hr
  clear hr
  obtain ⟨n, hn⟩ : ∃ n, u.length = n := ⟨_, rfl⟩
  rw [hn] at h1 ⊢
  by_cases hz : (2147483647 : Int) < (n : Nat)
  · go_enter Tryz.func55, Tryz.ntmps55
    go_wp2
    go_ret
    exact ⟨.mk _, Below.refl _ _⟩
  · have hz' : ((n : Nat) : Int) ≤ 2147483647 := by omega
    clear hz
    go_enter Tryz.func55, Tryz.ntmps55
    go_wp2_with fail
    go_loopw [10] (fun i wr => ∃ k : Nat, k ≤ n ∧ i = .int .i64 (k : Nat) ∧ Below base w wr) (fun i _ => n - (intOf i).toNat)
    case atStart => exact ⟨0, Nat.zero_le _, rfl, Below.refl _ _⟩
    case round =>
      obtain ⟨k, hk, rfl, hbk⟩ := hrel
      by_cases hkn : k < n
      · obtain ⟨kv, hkv⟩ : ∃ kv, u[k]? = some kv := ⟨u[k]'(by omega), List.getElem?_eq_getElem (by omega)⟩
        obtain ⟨p, q, rfl, hp, hc⟩ := H.out (by intro e; subst e; simp at hkv)
        obtain ⟨c0, hkey, x, c1, hx⟩ := hc k kv hkv
        obtain ⟨xa, xcap, rfl, -⟩ := id hx
        rw [Nat.mul_comm 2 k] at c0 c1
        have d0 := (hbk.cell (p := ⟨p, q + k * 2, none⟩) (by show p < base; omega)).trans c0
        have d1 := (hbk.cell (p := ⟨p, q + k * 2 + 1, none⟩) (by show p < base; omega)).trans c1
        have zs := hbk.size
        have hb2 := Lib.hid (hbk.alloc (Nat.le_trans hb hbk.size) (.cells #[.int .u32 (kv.1 : Int), .slice xa kv.2.length xcap] 79))
        have Z4 := Lib.hid (zFits4 kv.1 xa kv.2.length xcap (wr.heap.size) (wr.alloc (.cells #[.int .u32 (kv.1 : Int), .slice xa kv.2.length xcap] 79)) (by simp))
        clear hbk hx c0 c1 hc
        go_wp2_with fail
        refine Z4.out.mono ?_
        rintro e w' ⟨⟨b, rfl⟩, hb3⟩
        have FIN := Lib.hid (hb2.out.trans (hb3.mono (Nat.le_trans hb zs)))
        clear hb3
        cases b
        · go_wp2
          go_ret
          exact ⟨.mk _, FIN.out⟩
        · go_wp2
          go_roundw
          case rel => exact ⟨k + 1, by omega, by go_num, FIN.out⟩
          case measure => simp [intOf]; omega
      · obtain rfl : k = n := by omega
        go_wp2
        go_ret
        exact ⟨.mk _, hbk⟩
set_option maxHeartbeats 1600000 in
theorem zFits2 (t : Tree) (c : List Value) (B base : Nat) (w : World) (hB : B ≤ base) (hb : base ≤ w.heap.size) (ht : RepT B w c t) : Asks Tryz.prog 15 #[.agg c.toArray] w base := by
  obtain ⟨sv, lv, uv, rfl, -, ⟨sa, sc, rfl, -⟩, ⟨la, lc, lf, rfl, -⟩, hU⟩ := ht.parts
  obtain ⟨ua, uc, rfl, -⟩ := id hU
  have hbw := (Below.refl base w).alloc hb (.cells #[.int .i64 t.n, .slice sa t.s.length sc, .bool t.null, .slice la t.l.length lc, .slice ua t.u.length uc] 26)
  have Z3 := Lib.hid (zFits3 t.u _ B base _ hB (Nat.le_trans hb hbw.size) (hU.below (hbw.mono hB)))
  have HB := Lib.hid hbw
  clear hU ht hbw
  by_cases h1 : (2147483647 : Int) < (t.s.length : Nat)
  · go_enter Tryz.func15, Tryz.ntmps15
    go_wp2
    go_ret
    exact ⟨.mk _, HB.out⟩
  by_cases h2 : (2147483647 : Int) < (t.l.length : Nat)
  · go_enter Tryz.func15, Tryz.ntmps15
    go_wp2
    go_ret
    exact ⟨.mk _, HB.out⟩
  go_enter Tryz.func15, Tryz.ntmps15
  go_wp2_with fail
  refine Z3.out.mono ?_
  rintro e w' ⟨⟨b, rfl⟩, hb3⟩
  have FIN := Lib.hid (HB.out.trans hb3)
  clear hb3
  cases b
  · go_wp2
    go_ret
    exact ⟨.mk _, FIN.out⟩
  · go_wp2
    go_ret
    exact ⟨.mk _, FIN.out⟩
end Go.Proofs.YtfchajjllhndlabGreatDoor

/- Octets that came in, as the walks take them. -/
namespace Go.Proofs.YtfchajjllhndlabGreatDoor
open Go Go.RowKit Go.ChangeShapes

theorem wf_u8 {z : Int} (h : (Lit.int .u8 z).wf = true) : 0 ≤ z ∧ z ≤ 255 := by
  have hmin : IntKind.u8.min = 0 := rfl
  have hmax : IntKind.u8.max = 255 := rfl
  simpa only [Lit.wf, Bool.and_eq_true, decide_eq_true_eq, hmin, hmax] using h
theorem rb_of_ints {W : World} {a : Addr} {len cap : Nat} {zs : List Int} (hl : len ≤ cap) (hm : cap ≤ maxLen) (hz : len ≤ zs.length)
    (hcell : ∀ i, i < zs.length → W.cell? (a.add i) = some (.int .u8 (zs.getD i 0))) (hw : ∀ n ∈ zs, (Lit.int .u8 n).wf = true) :
    ∃ bs : List UInt8, bs.length = len ∧ RB [] W (.slice (some a) len cap) bs := by
  refine ⟨(zs.take len).map fun z => UInt8.ofNat z.toNat, by simp; omega, ?_⟩
  have e : ((zs.take len).map fun z => UInt8.ofNat z.toNat).length = len := by simp; omega
  refine ⟨some a, cap, by rw [e], by rw [e]; exact hl, by unfold maxLen at hm; omega, fun hne => ?_⟩
  have h0 : 0 < zs.length := by
    rcases Nat.eq_zero_or_pos zs.length with h | h
    · have : zs = [] := List.eq_nil_of_length_eq_zero h
      subst this
      simp at hne
    · exact h
  obtain ⟨b, o, spot⟩ := a
  cases spot with
  | some s =>
    have := hcell 0 h0
    simp [World.cell?, Addr.add] at this
    cases hh : W.heap[b]? with
    | none => rw [hh] at this; cases this
    | some ob => rw [hh] at this; cases ob <;> cases this
  | none =>
    refine ⟨b, o, rfl, by simp, fun i u hi => ?_⟩
    rw [List.getElem?_map, List.getElem?_take] at hi
    split at hi
    · rename_i hlt
      have hi2 : i < zs.length := by omega
      rw [List.getElem?_eq_getElem hi2] at hi
      simp only [Option.map_some, Option.some.injEq] at hi
      have hc := hcell i hi2
      rw [Addr.add_lit] at hc
      have hb := wf_u8 (hw _ (List.getElem_mem hi2))
      rw [hc, ← hi]
      unfold byteV
      have e2 : zs.getD i 0 = zs[i] := by simp [List.getD, hi2]
      rw [e2]
      have e3 : ((UInt8.ofNat zs[i].toNat).toNat : Int) = zs[i] := by
        rw [UInt8.toNat_ofNat']
        omega
      rw [e3]
    · cases hi
end Go.Proofs.YtfchajjllhndlabGreatDoor

/- What the reference writes of a tree is what 'ap' writes of a value that can be told. No program in sight. -/
namespace Go.Proofs.YtfchajjllhndlabGreatDoor

/-- May a field be null at a version? -/
def nulV (nu ver : Int) : Bool := decide (0 ≤ nu) && decide (nu ≤ ver)
def gvLeaf (ver nu : Int) : Leaf → Tree → GV
  | .i8, t => .int (sg 128 t.n)
  | .i16, t => .int (sg 32768 t.n)
  | .i32, t => .int (sg 2147483648 t.n)
  | .i64, t => .int (sg 9223372036854775808 t.n)
  | .u16, t => .int (t.n % 65536)
  | .bool, t => .bool (decide (t.n % 2 = 1))
  | .uuid, t => .bytes (uuid16 t.s)
  | .str, t => .bytes (whole t.s)
  | .nstr, t => if pNull nu ver t then .null else .bytes (whole t.s)
  | .nstrFrom _, t => if pNull nu ver t then .null else .bytes (whole t.s)
  | .bytes, t => .bytes (whole t.s)
def unkGV (flex : Bool) (t : Tree) : List (Nat × List UInt8) := if flex then (unk t.u).map fun u => (u.1, whole u.2) else []
def isLeaf : Sch → Bool
  | .leaf _ => true
  | _ => false
/-- What a tree says, as a value of the kind. -/
def gvS (ver : Int) (flex : Bool) : Sch → Int → PFs → Nat → Tree → GV
  | .leaf k, nu, _, _, t => gvLeaf ver nu k t
  | .list _ _ e, nu, sub, _, t => if pNull nu ver t then .null else .list ((t.l.take 32767).map fun t' => gvS ver flex e (-1) sub 0 t')
  | .opt e, nu, sub, _, t => if pNull nu ver t then .null else gvS ver flex e (-1) sub 0 t
  | .done, _, _, _, _ => .unit
  | .tags _, _, _, _, t => .tags (unkGV flex t)
  | .cons _ _ _ f rest, _, .cons _ _ _ nu _ _ _ sub prest, i, t => .cons (gvS ver flex f nu sub 0 (atT t i)) (gvS ver flex rest (-1) prest (i + 1) t)
  | .cons .., _, .nil, _, _ => .unit
def agLeaf (ver k nu : Int) : Leaf → Bool
  | .i8 => decide (k = 1)
  | .i16 => decide (k = 2)
  | .i32 => decide (k = 3)
  | .i64 => decide (k = 4)
  | .u16 => decide (k = 5)
  | .bool => decide (k = 0)
  | .uuid => decide (k = 7)
  | .str => decide (k = 8) && !nulV nu ver
  | .nstr => decide (k = 8)
  | .nstrFrom m => decide (k = 8) && (!nulV nu ver || decide (m ≤ ver))
  | .bytes => decide (k = 9) && !nulV nu ver
/-- Do the reference's fields and the code's agree, at a version? 'fld': a field of kind k (of things: ok), null from nu on, with the fields sub; else the fields sub themselves. -/
def agree (ver : Int) (flex : Bool) : Sch → Bool → Int → Int → Int → PFs → Bool
  | .leaf lf, fld, k, nu, _, _ => fld && agLeaf ver k nu lf
  | .list nul _ e, fld, k, nu, ok, sub => fld && decide (k = 11) && (!nulV nu ver || nullAt nul ver) && (if isLeaf e then agree ver flex e true ok (-1) 0 .nil else decide (ok = 10) && agree ver flex e false 0 (-1) 0 sub)
  | .opt e, fld, k, nu, _, sub => fld && decide (k = 10) && decide (0 ≤ nu) && agree ver flex e false 0 (-1) 0 sub
  | .done, fld, _, _, _, fs => !fld && !flex && (match fs with | .nil => true | _ => false)
  | .tags _, fld, _, _, _, fs => !fld && (match fs with | .nil => true | _ => false)
  | .cons _ lo hi f rest, fld, k, nu, _, fs =>
    if fld then decide (k = 10) && decide (nu < 0) && (match fs with
      | .nil => false
      | .cons k' fr to nu' tg _ ok' sub prest => decide (tg < 0) && (pHas fr to ver == hasV lo hi ver) && (!hasV lo hi ver || agree ver flex f true k' nu' ok' sub) && agree ver flex rest false 0 (-1) 0 prest)
    else match fs with
      | .nil => false
      | .cons k' fr to nu' tg _ ok' sub prest => decide (tg < 0) && (pHas fr to ver == hasV lo hi ver) && (!hasV lo hi ver || agree ver flex f true k' nu' ok' sub) && agree ver flex rest false 0 (-1) 0 prest
/-- All numbers of unknown tags are numbers of 32 bits. -/
inductive TW : Tree → Prop
  | mk (n : Int) (s : List UInt8) (null : Bool) (l : List Tree) (u : List (Nat × List UInt8)) (hu : ∀ kv ∈ u, kv.1 ≤ 4294967295) (hl : ∀ t ∈ l, TW t) : TW (.mk n s null l u)
theorem TW.zero : TW .zero := .mk _ _ _ _ _ (fun _ h => nomatch h) (fun _ h => nomatch h)
theorem TW.mem {t t' : Tree} (h : TW t) (hm : t' ∈ t.l) : TW t' := by
  cases h with
  | mk n s null l u hu hl => exact hl t' hm
theorem TW.keys {t : Tree} (h : TW t) : ∀ kv ∈ t.u, kv.1 ≤ 4294967295 := by
  cases h with
  | mk n s null l u hu hl => exact hu
theorem TW.at {t : Tree} (h : TW t) (i : Nat) : TW (atT t i) := by
  unfold atT
  rw [List.getD_eq_getElem?_getD]
  cases hi : t.l[i]? with
  | none => exact TW.zero
  | some x => exact h.mem (List.mem_of_getElem? hi)

theorem bb_sg (m n : Int) (h : ∃ k, 2 * m = 256 * k) : bb (sg m n) = bb n := by
  obtain ⟨k, hk⟩ := h
  unfold bb
  congr 2
  have e : sg m n = n - 2 * m * ((n + m) / (2 * m)) := by
    have := Int.emod_add_mul_ediv (n + m) (2 * m)
    unfold sg
    omega
  rw [e, hk, Int.mul_assoc]
  omega
theorem be_sg16 (n : Int) : be16 (sg 32768 n) = be16 n := by
  rw [← be16_mod (sg 32768 n), ← be16_mod n]
  congr 1
  unfold sg
  omega
theorem be_sg32 (n : Int) : be32 (sg 2147483648 n) = be32 n := by
  rw [← be32_mod (sg 2147483648 n), ← be32_mod n]
  congr 1
  unfold sg
  omega
theorem be_sg64 (n : Int) : be64 (sg 9223372036854775808 n) = be64 n := by
  rw [← be64_mod (sg 9223372036854775808 n), ← be64_mod n]
  congr 1
  unfold sg
  omega
theorem whole_length (s : List UInt8) : (whole s).length ≤ 32767 := by simp [whole]; omega
theorem counted2 (flex : Bool) (n : Nat) : counted flex false n 2 = lenS flex n := by
  unfold counted lenS
  cases flex <;> simp [fixed]
theorem counted2n (flex : Bool) (n : Nat) : counted flex true n 2 = nulS flex := by
  unfold counted nulS
  cases flex <;> simp [fixed]
  decide
theorem counted4 (flex : Bool) (n : Nat) : counted flex false n 4 = lenB flex n := by
  unfold counted lenB
  cases flex <;> simp [fixed]
theorem counted4n (flex : Bool) (n : Nat) : counted flex true n 4 = nulB flex := by
  unfold counted nulB
  cases flex <;> simp [fixed]
  decide
theorem pNull_nulV {nu ver : Int} {t : Tree} (h : nulV nu ver = false) : pNull nu ver t = false := by
  unfold nulV at h
  unfold pNull
  rw [Bool.and_assoc, h, Bool.and_false]
theorem nulV_of {nu ver : Int} {t : Tree} (h : pNull nu ver t = true) : nulV nu ver = true := by
  cases hn : nulV nu ver
  · rw [pNull_nulV hn] at h
    cases h
  · rfl
theorem ag_leaf {ver : Int} {flex : Bool} {k nu : Int} {lf : Leaf} (h : agLeaf ver k nu lf = true) (pp : Tree → List UInt8) (t : Tree) : pVal flex k pp (pNull nu ver t) t = apLeaf ver flex lf (gvLeaf ver nu lf t) := by
  cases lf <;> simp only [agLeaf, Bool.and_eq_true, Bool.or_eq_true, Bool.not_eq_true', decide_eq_true_eq] at h
  case i8 => subst h; simp [pVal, apLeaf, gvLeaf, fixed, pWidth, bb_sg 128 t.n ⟨1, rfl⟩]
  case i16 => subst h; simp [pVal, apLeaf, gvLeaf, fixed, pWidth, be_sg16]
  case i32 => subst h; simp [pVal, apLeaf, gvLeaf, fixed, pWidth, be_sg32]
  case i64 => subst h; simp [pVal, apLeaf, gvLeaf, fixed, pWidth, be_sg64]
  case u16 => subst h; simp [pVal, apLeaf, gvLeaf, fixed, pWidth, be16_mod]
  case bool =>
    subst h
    have h2 : t.n % 2 = 0 ∨ t.n % 2 = 1 := by omega
    rcases h2 with h2 | h2 <;> simp [pVal, apLeaf, gvLeaf, h2] <;> decide
  case uuid => subst h; simp [pVal, apLeaf, gvLeaf]
  case str =>
    obtain ⟨rfl, h2⟩ := h
    simp [pVal, apLeaf, gvLeaf, pNull_nulV h2, counted2]
  case nstr =>
    subst h
    cases hp : pNull nu ver t <;> simp [pVal, apLeaf, gvLeaf, hp, counted2, counted2n]
  case nstrFrom m =>
    obtain ⟨rfl, h2⟩ := h
    cases hp : pNull nu ver t
    · simp [pVal, apLeaf, gvLeaf, hp, counted2]
    · have hm : ¬ ver < m := by
        rcases h2 with h2 | h2
        · rw [pNull_nulV h2] at hp; cases hp
        · omega
      simp [pVal, apLeaf, gvLeaf, hp, counted2n, hm]
  case bytes =>
    obtain ⟨rfl, h2⟩ := h
    simp [pVal, apLeaf, gvLeaf, pNull_nulV h2, counted4]
theorem sg_bounds {m : Int} (hm : 0 < m) (n : Int) : -m ≤ sg m n ∧ sg m n < m := by
  have h3 := Int.emod_nonneg (n + m) (b := 2 * m) (by omega)
  have h4 := Int.emod_lt_of_pos (n + m) (b := 2 * m) (by omega)
  unfold sg
  omega
theorem uuid16_len (s : List UInt8) : (uuid16 s).length = 16 := by simp [uuid16]
theorem wf_leaf {ver : Int} {flex : Bool} {k nu : Int} {lf : Leaf} (h : agLeaf ver k nu lf = true) (t : Tree) : wfLeaf ver flex lf (gvLeaf ver nu lf t) := by
  have hw := whole_length t.s
  have hs : (whole t.s).length ≤ strMax flex := by unfold strMax; split <;> omega
  cases lf <;> simp only [agLeaf, Bool.and_eq_true, Bool.or_eq_true, Bool.not_eq_true', decide_eq_true_eq] at h
  case i8 => have := sg_bounds (m := 128) (by omega) t.n; exact ⟨this.1, by omega⟩
  case i16 => have := sg_bounds (m := 32768) (by omega) t.n; exact ⟨this.1, by omega⟩
  case i32 => have := sg_bounds (m := 2147483648) (by omega) t.n; exact ⟨this.1, by omega⟩
  case i64 => have := sg_bounds (m := 9223372036854775808) (by omega) t.n; exact ⟨this.1, by omega⟩
  case u16 => simp only [gvLeaf, wfLeaf]; omega
  case bool => trivial
  case uuid => exact uuid16_len t.s
  case str => exact hs
  case nstr => cases hp : pNull nu ver t <;> simp [gvLeaf, wfLeaf, hp, hs]
  case nstrFrom m =>
    cases hp : pNull nu ver t
    · simp [gvLeaf, wfLeaf, hp, hs]
    · have hm : ¬ ver < m := by
        rcases h.2 with h2 | h2
        · rw [pNull_nulV h2] at hp; cases hp
        · omega
      simp only [gvLeaf, hp, if_true, wfLeaf]
      exact hm
  case bytes => simp only [gvLeaf, wfLeaf, bMax]; split <;> omega
theorem insU_mem : ∀ (l : List (Nat × List UInt8)) (k : Nat) (v : List UInt8) (u : Nat × List UInt8), u ∈ insU k v l → u = (k, v) ∨ u ∈ l
  | [], k, v, u, h => by simpa [insU] using h
  | (j, x) :: l, k, v, u, h => by
    simp only [insU] at h
    split at h
    · rcases List.mem_cons.1 h with h | h
      · exact .inr (by rw [h]; exact List.mem_cons_self ..)
      · rcases insU_mem l k v u h with h | h
        · exact .inl h
        · exact .inr (List.mem_cons_of_mem _ h)
    · split at h
      · exact .inr h
      · simpa using h
theorem insU_rising : ∀ (l : List (Nat × List UInt8)) (k : Nat) (v : List UInt8), rising l → rising (insU k v l) ∧ (insU k v l).length ≤ l.length + 1
  | [], k, v, _ => ⟨trivial, by simp [insU]⟩
  | (j, x) :: l, k, v, h => by
    obtain ⟨h1, h2⟩ := rising_tail h
    simp only [insU]
    split
    · rename_i hk
      obtain ⟨i1, i2⟩ := insU_rising l k v h1
      refine ⟨rising_cons i1 ?_, by simp only [List.length_cons]; omega⟩
      intro u hu
      rcases insU_mem l k v u hu with rfl | hu
      · simp only; omega
      · exact h2 u hu
    · split
      · exact ⟨h, by simp⟩
      · rename_i hk hj
        exact ⟨⟨by simp only; omega, h⟩, by simp⟩
theorem foldl_insU : ∀ (l acc : List (Nat × List UInt8)), rising acc → (∀ t ∈ acc, t.1 ≤ 4294967295) → (∀ t ∈ l, t.1 ≤ 4294967295) →
    rising (l.foldl (fun acc t => insU t.1 t.2 acc) acc) ∧ (l.foldl (fun acc t => insU t.1 t.2 acc) acc).length ≤ acc.length + l.length ∧ (∀ t ∈ l.foldl (fun acc t => insU t.1 t.2 acc) acc, t.1 ≤ 4294967295)
  | [], acc, h, h2, _ => ⟨h, by simp, h2⟩
  | t :: l, acc, h, h2, h3 => by
    obtain ⟨i1, i2⟩ := insU_rising acc t.1 t.2 h
    obtain ⟨j1, j2, j3⟩ := foldl_insU l (insU t.1 t.2 acc) i1 (fun u hu => by
      rcases insU_mem acc t.1 t.2 u hu with rfl | hu
      · exact h3 _ (List.mem_cons_self ..)
      · exact h2 u hu) (fun u hu => h3 u (List.mem_cons_of_mem _ hu))
    simp only [List.foldl_cons]
    exact ⟨j1, by simp only [List.length_cons]; omega, j3⟩
theorem unk_ok {u : List (Nat × List UInt8)} (h : ∀ kv ∈ u, kv.1 ≤ 4294967295) : rising (unk u) ∧ (unk u).length ≤ 32767 ∧ ∀ t ∈ unk u, t.1 ≤ 4294967295 := by
  obtain ⟨h1, h2, h3⟩ := foldl_insU (u.take 32767) [] trivial (fun t ht => nomatch ht) (fun t ht => h t (List.mem_of_mem_take ht))
  refine ⟨h1, ?_, h3⟩
  have h4 : (unk u).length ≤ ([] : List (Nat × List UInt8)).length + (u.take 32767).length := h2
  simp at h4
  omega
theorem rising_map : ∀ {l : List (Nat × List UInt8)} (f : List UInt8 → List UInt8), rising l → rising (l.map fun u => (u.1, f u.2))
  | [], _, _ => trivial
  | [_], _, _ => trivial
  | _ :: _ :: _, f, h => ⟨h.1, rising_map f h.2⟩
theorem wf_unk (flex : Bool) {t : Tree} (h : TW t) : rising (unkGV flex t) ∧ (unkGV flex t).length ≤ 4294967295 ∧ (∀ u ∈ unkGV flex t, u.1 ≤ 4294967295 ∧ u.2.length ≤ 4294967295) ∧ (flex = false → unkGV flex t = []) := by
  obtain ⟨h1, h2, h3⟩ := unk_ok h.keys
  cases flex
  · exact ⟨trivial, by simp [unkGV], (fun u hu => nomatch hu), fun _ => rfl⟩
  · refine ⟨rising_map whole h1, ?_, ?_, fun h => nomatch h⟩
    · simp [unkGV]; omega
    · intro u hu
      simp only [unkGV, if_true, List.mem_map] at hu
      obtain ⟨x, hx, rfl⟩ := hu
      have := whole_length x.2
      exact ⟨h3 x hx, by simp only; omega⟩
theorem tail_ap (flex : Bool) (t : Tree) (ver : Int) (off : Nat) : pTail flex t = ap ver flex (.tags off) (.tags (unkGV flex t)) := by
  cases flex
  · rfl
  · simp only [pTail, ap, unkGV, if_true, List.length_map, apTags, List.flatMap_map]
    rfl
theorem flatMap_same {α β : Type} {f g : α → List β} : ∀ {l : List α}, (∀ x, x ∈ l → f x = g x) → l.flatMap f = l.flatMap g
  | [], _ => rfl
  | x :: l, h => by rw [List.flatMap_cons, List.flatMap_cons, h x (List.mem_cons_self ..), flatMap_same fun y hy => h y (List.mem_cons_of_mem _ hy)]
/-- What the reference writes is what 'ap' writes. (A field; fields.) -/
theorem gv_ap (ver : Int) (flex : Bool) : ∀ (s : Sch) (fld : Bool) (k nu ok : Int) (fs : PFs), agree ver flex s fld k nu ok fs = true →
    (fld = true → ∀ t, pField ver flex k nu ok (fun t' => pFields ver flex fs 0 t' ++ pTail flex t') t = ap ver flex s (gvS ver flex s nu fs 0 t)) ∧
    (fld = false → ∀ i t, pFields ver flex fs i t ++ pTail flex t = ap ver flex s (gvS ver flex s (-1) fs i t))
  | .leaf lf, fld, k, nu, ok, fs, h => by
    simp only [agree, Bool.and_eq_true] at h
    refine ⟨fun _ t => ?_, fun hf => by rw [hf] at h; exact absurd h.1 (by simp)⟩
    have hk : k ≠ 11 ∧ k ≠ 10 := by
      have := h.2
      cases lf <;> simp only [agLeaf, Bool.and_eq_true, decide_eq_true_eq] at this <;> omega
    simp only [pField, if_neg hk.1, hk.2, false_and, if_false, ap, gvS]
    exact ag_leaf h.2 _ t
  | .list nul z e, fld, k, nu, ok, fs, h => by
    simp only [agree, Bool.and_eq_true, decide_eq_true_eq, beq_iff_eq] at h
    obtain ⟨⟨⟨h1, rfl⟩, h3⟩, h4⟩ := h
    refine ⟨fun _ t => ?_, fun hf => by rw [hf] at h1; cases h1⟩
    simp only [pField, if_true, gvS]
    cases hp : pNull nu ver t
    · simp only [pThings, Bool.false_eq_true, if_false, ap, List.length_map, counted4, List.flatMap_map]
      congr 1
      refine flatMap_same fun t' _ => ?_
      by_cases hl : isLeaf e = true
      · rw [if_pos hl] at h4
        cases e <;> simp only [isLeaf] at hl <;> try cases hl
        rename_i lf
        simp only [agree, Bool.true_and] at h4
        have := ag_leaf (flex := flex) h4 (fun t' => pFields ver flex fs 0 t' ++ pTail flex t') t'
        have hp' : pNull (-1) ver t' = false := pNull_nulV (by simp [nulV])
        rw [hp'] at this
        exact this
      · rw [if_neg hl] at h4
        simp only [Bool.and_eq_true, decide_eq_true_eq] at h4
        obtain ⟨rfl, h4⟩ := h4
        exact (gv_ap ver flex e false 0 (-1) 0 fs h4).2 rfl 0 t'
    · simp [pThings, ap, counted4n]
  | .opt e, fld, k, nu, ok, fs, h => by
    simp only [agree, Bool.and_eq_true, decide_eq_true_eq] at h
    obtain ⟨⟨⟨h1, rfl⟩, h3⟩, h4⟩ := h
    refine ⟨fun _ t => ?_, fun hf => by rw [hf] at h1; cases h1⟩
    have h5 := (gv_ap ver flex e false 0 (-1) 0 fs h4).2 rfl 0 t
    simp only [pField, gvS]
    rw [if_neg (by omega), if_pos (And.intro trivial h3)]
    cases hp : pNull nu ver t
    · simp only [Bool.false_eq_true, if_false]
      rw [h5]
      have hne : gvS ver flex e (-1) fs 0 t ≠ .null := by
        cases e with
        | leaf _ => simp [agree] at h4
        | list _ _ _ => simp [agree] at h4
        | opt _ => simp [agree] at h4
        | done => simp [gvS]
        | tags _ => simp [gvS]
        | cons _ _ _ _ _ => cases fs <;> simp [gvS]
      have e1 : fixed 1 1 = [1] := by decide
      rw [e1]
      generalize gvS ver flex e (-1) fs 0 t = g at *
      cases g <;> first | exact absurd rfl hne | rfl
    · simp only [if_true, ap]
      decide
  | .done, fld, k, nu, ok, fs, h => by
    simp only [agree, Bool.and_eq_true, Bool.not_eq_true'] at h
    obtain ⟨⟨h1, h2⟩, h3⟩ := h
    refine ⟨fun hf => by rw [hf] at h1; (cases h1), fun _ i t => ?_⟩
    cases fs <;> try (cases h3)
    subst h2
    rfl
  | .tags off, fld, k, nu, ok, fs, h => by
    simp only [agree, Bool.and_eq_true, Bool.not_eq_true'] at h
    obtain ⟨h1, h3⟩ := h
    refine ⟨fun hf => by rw [hf] at h1; (cases h1), fun _ i t => ?_⟩
    cases fs <;> try (cases h3)
    simp only [pFields, List.nil_append, gvS]
    exact tail_ap flex t ver off
  | .cons off lo hi f rest, fld, k, nu, ok, fs, h => by
    have key : ∀ {fs : PFs}, (match fs with
      | .nil => false
      | .cons k' fr to nu' tg _ ok' sub prest => decide (tg < 0) && (pHas fr to ver == hasV lo hi ver) && (!hasV lo hi ver || agree ver flex f true k' nu' ok' sub) && agree ver flex rest false 0 (-1) 0 prest) = true →
      ∀ i t nu, pFields ver flex fs i t ++ pTail flex t = ap ver flex (.cons off lo hi f rest) (gvS ver flex (.cons off lo hi f rest) nu fs i t) := by
      intro fs h i t nu
      cases fs with
      | nil => cases h
      | cons k' fr to nu' tg df ok' sub prest =>
        simp only [Bool.and_eq_true, decide_eq_true_eq, beq_iff_eq, Bool.or_eq_true, Bool.not_eq_true'] at h
        obtain ⟨⟨⟨h1, h2⟩, h3⟩, h4⟩ := h
        have r2 := (gv_ap ver flex rest false 0 (-1) 0 prest h4).2 rfl (i + 1) t
        simp only [pFields, gvS, ap, decide_eq_true h1, Bool.true_and, h2]
        rw [List.append_assoc, r2]
        congr 1
        by_cases hv : hasV lo hi ver = true
        · rw [if_pos hv, if_pos hv]
          have h3' := h3.resolve_left (by rw [hv]; exact fun h => by cases h)
          exact (gv_ap ver flex f true k' nu' ok' sub h3').1 rfl (atT t i)
        · rw [if_neg hv, if_neg hv]
    cases fld
    · simp only [agree, Bool.false_eq_true, if_false] at h
      exact ⟨(fun hf => by cases hf), fun _ i t => key h i t (-1)⟩
    · simp only [agree, if_true, Bool.and_eq_true, decide_eq_true_eq] at h
      obtain ⟨⟨rfl, h2⟩, h3⟩ := h
      refine ⟨fun _ t => ?_, fun hf => by cases hf⟩
      have := key h3 0 t nu
      simp only [pField]
      rw [if_neg (by omega), if_neg (by omega)]
      simp only [pVal]
      rw [if_neg (by omega), if_neg (by omega), if_neg (by omega), if_neg (by omega), if_pos trivial]
      exact this
/-- What a tree says can be told. -/
theorem gv_wf (ver : Int) (flex : Bool) : ∀ (s : Sch) (fld : Bool) (k nu ok : Int) (fs : PFs), agree ver flex s fld k nu ok fs = true → ∀ (i : Nat) (t : Tree), TW t → WF ver flex s (gvS ver flex s nu fs i t)
  | .leaf lf, fld, k, nu, ok, fs, h, i, t, ht => by
    simp only [agree, Bool.and_eq_true] at h
    exact wf_leaf h.2 t
  | .list nul z e, fld, k, nu, ok, fs, h, i, t, ht => by
    simp only [agree, Bool.and_eq_true, decide_eq_true_eq, beq_iff_eq] at h
    obtain ⟨⟨⟨h1, rfl⟩, h3⟩, h4⟩ := h
    simp only [gvS]
    cases hp : pNull nu ver t
    · simp only [Bool.false_eq_true, if_false, WF, List.length_map, List.length_take, List.mem_map]
      refine ⟨by omega, ?_⟩
      rintro v ⟨t', ht', rfl⟩
      have htw := ht.mem (List.mem_of_mem_take ht')
      by_cases hl : isLeaf e = true
      · rw [if_pos hl] at h4
        cases e <;> simp only [isLeaf] at hl <;> try cases hl
        exact gv_wf ver flex _ true ok (-1) 0 .nil h4 0 t' htw
      · rw [if_neg hl] at h4
        simp only [Bool.and_eq_true, decide_eq_true_eq] at h4
        exact gv_wf ver flex e false 0 (-1) 0 fs h4.2 0 t' htw
    · simp only [if_true, WF]
      rw [nulV_of hp] at h3
      simpa using h3
  | .opt e, fld, k, nu, ok, fs, h, i, t, ht => by
    simp only [agree, Bool.and_eq_true, decide_eq_true_eq] at h
    obtain ⟨⟨⟨h1, rfl⟩, h3⟩, h4⟩ := h
    simp only [gvS]
    cases hp : pNull nu ver t
    · simp only [Bool.false_eq_true, if_false]
      have hx : WF ver flex e (gvS ver flex e (-1) fs 0 t) := gv_wf ver flex e false 0 (-1) 0 fs h4 0 t ht
      generalize gvS ver flex e (-1) fs 0 t = g at *
      cases g <;> first | trivial | exact hx
    · trivial
  | .done, fld, k, nu, ok, fs, h, i, t, ht => trivial
  | .tags off, fld, k, nu, ok, fs, h, i, t, ht => wf_unk flex ht
  | .cons off lo hi f rest, fld, k, nu, ok, fs, h, i, t, ht => by
    have key : ∀ {fs : PFs}, (match fs with
      | .nil => false
      | .cons k' fr to nu' tg _ ok' sub prest => decide (tg < 0) && (pHas fr to ver == hasV lo hi ver) && (!hasV lo hi ver || agree ver flex f true k' nu' ok' sub) && agree ver flex rest false 0 (-1) 0 prest) = true → WF ver flex (.cons off lo hi f rest) (gvS ver flex (.cons off lo hi f rest) nu fs i t) := by
      intro fs h
      cases fs with
      | nil => cases h
      | cons k' fr to nu' tg df ok' sub prest =>
        simp only [Bool.and_eq_true, decide_eq_true_eq, beq_iff_eq, Bool.or_eq_true, Bool.not_eq_true'] at h
        obtain ⟨⟨⟨h1, h2⟩, h3⟩, h4⟩ := h
        exact ⟨fun hv => gv_wf ver flex f true k' nu' ok' sub (h3.resolve_left (by rw [hv]; exact fun h => by cases h)) 0 (atT t i) (ht.at i), gv_wf ver flex rest false 0 (-1) 0 prest h4 (i + 1) t ht⟩
    cases fld
    · simp only [agree, Bool.false_eq_true, if_false] at h
      exact key h
    · simp only [agree, if_true, Bool.and_eq_true] at h
      exact key h.2
end Go.Proofs.YtfchajjllhndlabGreatDoor

/- How much the reference writes: by the fields alone; by what the tree holds. No program in sight. -/
namespace Go.Proofs.YtfchajjllhndlabGreatDoor

theorem uvF_len : ∀ k n, (uvF k n).length ≤ k + 1
  | 0, n => by simp [uvF]
  | k + 1, n => by
    unfold uvF
    split
    · simp
    · have := uvF_len k (n / 128)
      simp only [List.length_cons]
      omega
theorem uv_len10 (n : Nat) : (uv n).length ≤ 10 := uvF_len 9 n
theorem fixed_len (n : Int) (k : Nat) : (fixed n k).length ≤ 8 := by
  unfold fixed
  split
  · simp
  split
  · simp [be16]
  split <;> simp [be32, be64]
theorem counted_len (flex null : Bool) (n k : Nat) : (counted flex null n k).length ≤ 10 := by
  unfold counted
  have h1 := fixed_len (-1) k
  have h2 := fixed_len n k
  have h3 := uv_len10 (n + 1)
  cases flex <;> cases null <;> simp <;> omega
theorem whole_le (s : List UInt8) : (whole s).length ≤ 32767 ∧ (whole s).length ≤ s.length := by
  unfold whole
  rw [List.length_take]
  omega
theorem pTag_len (t : Nat × List UInt8) : (pTag t).length ≤ 20 + (whole t.2).length := by
  have h1 := uv_len10 t.1
  have h2 := uv_len10 (whole t.2).length
  simp only [pTag, List.length_append]
  omega
theorem flatMap_le {α β : Type} {f : α → List β} {c : Nat} : ∀ {l : List α}, (∀ x, x ∈ l → (f x).length ≤ c) → (l.flatMap f).length ≤ l.length * c
  | [], _ => by simp
  | x :: l, h => by
    have h1 := h x (List.mem_cons_self ..)
    have h2 := flatMap_le (l := l) fun y hy => h y (List.mem_cons_of_mem _ hy)
    simp only [List.flatMap_cons, List.length_append, List.length_cons, Nat.succ_mul]
    omega
/-- The most that tags take. -/
def tgMax (flex : Bool) : Nat := if flex then 10 + 32767 * 32787 else 0
theorem pTail_max (flex : Bool) (t : Tree) : (pTail flex t).length ≤ tgMax flex := by
  cases flex
  · simp [pTail, tgMax]
  · have h1 := unk_len t.u
    have h2 := uv_len10 (unk t.u).length
    have h3 : ((unk t.u).flatMap pTag).length ≤ (unk t.u).length * 32787 := flatMap_le fun x _ => by
      have := pTag_len x
      have := (whole_le x.2).1
      omega
    have h4 := Nat.mul_le_mul_right 32787 h1
    simp only [pTail, tgMax, if_true, List.length_append]
    omega
/-- The most that a value of a kind takes; sm: a part. -/
def valMax (k : Int) (sm : Nat) : Nat := if k = 10 then sm else 32777
theorem pVal_max (flex : Bool) (k : Int) (pp : Tree → List UInt8) (null : Bool) (t : Tree) (sm : Nat) (h : (pp t).length ≤ sm) : (pVal flex k pp null t).length ≤ valMax k sm := by
  have hw := (whole_le t.s).1
  have hx : ∀ b : Bool, (if b then ([] : List UInt8) else whole t.s).length ≤ 32767 := by
    intro b
    cases b
    · simpa using hw
    · simp
  by_cases h10 : k = 10
  · subst h10
    exact h
  have e : valMax k sm = 32777 := if_neg h10
  rw [e]
  unfold pVal
  split
  · simp
  split
  · simp [uuid16]
  split
  · rw [List.length_append]
    have := counted_len flex null (if null then ([] : List UInt8) else whole t.s).length 2
    have := hx null
    omega
  split
  · rw [List.length_append]
    have := counted_len flex null (if null then ([] : List UInt8) else whole t.s).length 4
    have := hx null
    omega
  · have := fixed_len t.n (pWidth k)
    omega
/-- The most that fields take. -/
def mx (flex : Bool) : PFs → Nat
  | .nil => 0
  | .cons k _ _ _ _ _ ok sub rest => (if k = 11 then 10 + 32767 * valMax ok (mx flex sub + tgMax flex) else 1 + valMax k (mx flex sub + tgMax flex)) + mx flex rest
theorem pFields_max (ver : Int) (flex : Bool) : ∀ (fs : PFs) (i : Nat) (t : Tree), (pFields ver flex fs i t).length ≤ mx flex fs
  | .nil, _, _ => by simp [pFields]
  | .cons k fr to nu tg df ok sub rest, i, t => by
    have hr := pFields_max ver flex rest (i + 1) t
    have hs : ∀ t', (pFields ver flex sub 0 t' ++ pTail flex t').length ≤ mx flex sub + tgMax flex := fun t' => by
      have h1 := pFields_max ver flex sub 0 t'
      have h2 := pTail_max flex t'
      rw [List.length_append]
      omega
    simp only [pFields, mx, List.length_append]
    refine Nat.add_le_add ?_ hr
    split
    · unfold pField
      split
      · rename_i h11
        rw [List.length_append]
        have h1 := counted_len flex (pNull nu ver (atT t i)) (pThings (pNull nu ver (atT t i)) (atT t i)).length 4
        have h2 : ((pThings (pNull nu ver (atT t i)) (atT t i)).flatMap (pVal flex ok (fun t' => pFields ver flex sub 0 t' ++ pTail flex t') false)).length ≤ (pThings (pNull nu ver (atT t i)) (atT t i)).length * valMax ok (mx flex sub + tgMax flex) :=
          flatMap_le fun x _ => pVal_max flex ok _ false x _ (hs x)
        have h3 : (pThings (pNull nu ver (atT t i)) (atT t i)).length ≤ 32767 := by
          unfold pThings
          split
          · simp
          · rw [List.length_take]; omega
        have h4 := Nat.mul_le_mul_right (valMax ok (mx flex sub + tgMax flex)) h3
        omega
      · split
        · rename_i h10
          have h1 := hs (atT t i)
          have e : valMax k (mx flex sub + tgMax flex) = mx flex sub + tgMax flex := by unfold valMax; rw [if_pos h10.1]
          rw [e]
          dsimp only
          split
          · have h2 : (fixed (-1) 1).length = 1 := rfl
            omega
          · have h2 : (fixed 1 1).length = 1 := rfl
            rw [List.length_append, h2]
            omega
        · have := pVal_max flex k (fun t' => pFields ver flex sub 0 t' ++ pTail flex t') (pNull nu ver (atT t i)) (atT t i) _ (hs _)
          omega
    · simp
theorem pPart_max (ver : Int) (flex : Bool) (fs : PFs) (t : Tree) : (pPart ver flex fs t).length ≤ mx flex fs + tgMax flex := by
  have h1 := pFields_max ver flex fs 0 t
  have h2 := pTail_max flex t
  unfold pPart
  rw [List.length_append]
  omega

/-- What tags hold; what a tree holds. -/
def wtU : List (Nat × List UInt8) → Nat
  | [] => 0
  | t :: r => 1 + t.2.length + wtU r
mutual
def Tree.wt : Tree → Nat
  | .mk _ s _ l u => 1 + s.length + wts l + wtU u
def wts : List Tree → Nat
  | [] => 0
  | t :: r => t.wt + wts r
end
theorem wt_eq (t : Tree) : t.wt = 1 + t.s.length + wts t.l + wtU t.u := by cases t; simp [Tree.wt, Tree.s, Tree.l, Tree.u]
theorem wt_mem : ∀ {l : List Tree} {t : Tree}, t ∈ l → t.wt ≤ wts l
  | x :: l, t, h => by
    simp only [wts]
    rcases List.mem_cons.1 h with rfl | h
    · omega
    · have := wt_mem h; omega
theorem wt_at (t : Tree) (i : Nat) : (atT t i).wt ≤ t.wt := by
  have e := wt_eq t
  unfold atT
  rw [List.getD_eq_getElem?_getD]
  cases h : t.l[i]? with
  | none => simp [Tree.zero, Tree.wt, wts, wtU]; omega
  | some x =>
    have := wt_mem (List.mem_of_getElem? h)
    simp only [Option.getD_some]
    omega
theorem wts_take : ∀ (n : Nat) (l : List Tree), wts (l.take n) ≤ wts l
  | 0, l => by simp [wts]
  | n + 1, [] => by simp [wts]
  | n + 1, x :: l => by
    have := wts_take n l
    simp only [List.take_succ_cons, wts]
    omega
theorem insU_wt (k : Nat) (v : List UInt8) : ∀ l : List (Nat × List UInt8), ((insU k v l).flatMap pTag).length ≤ (pTag (k, v)).length + (l.flatMap pTag).length
  | [] => by simp [insU]
  | (j, u) :: r => by
    have ih := insU_wt k v r
    simp only [insU]
    split
    · simp only [List.flatMap_cons, List.length_append] at ih ⊢
      omega
    · split
      · simp only [List.flatMap_cons, List.length_append]
        omega
      · simp only [List.flatMap_cons, List.length_append]
        omega
theorem fold_wt : ∀ (l acc : List (Nat × List UInt8)), ((l.foldl (fun acc t => insU t.1 t.2 acc) acc).flatMap pTag).length ≤ (acc.flatMap pTag).length + 21 * wtU l
  | [], acc => by simp [wtU]
  | t :: l, acc => by
    have h1 := fold_wt l (insU t.1 t.2 acc)
    have h2 := insU_wt t.1 t.2 acc
    have h3 := pTag_len t
    have h4 := (whole_le t.2).2
    simp only [List.foldl_cons, wtU]
    have h5 : (pTag (t.1, t.2)).length = (pTag t).length := rfl
    omega
theorem wtU_take : ∀ (n : Nat) (l : List (Nat × List UInt8)), wtU (l.take n) ≤ wtU l
  | 0, l => by simp [wtU]
  | n + 1, [] => by simp [wtU]
  | n + 1, x :: l => by
    have := wtU_take n l
    simp only [List.take_succ_cons, wtU]
    omega
theorem pTail_wt (flex : Bool) (t : Tree) : (pTail flex t).length ≤ 31 * t.wt := by
  have e := wt_eq t
  cases flex
  · simp [pTail]
  · have h1 := fold_wt (t.u.take 32767) []
    have h2 := wtU_take 32767 t.u
    have h3 := uv_len10 (unk t.u).length
    simp only [pTail, if_true, List.length_append]
    simp only [List.flatMap_nil, List.length_nil] at h1
    have h4 : ((unk t.u).flatMap pTag).length ≤ 0 + 21 * wtU (t.u.take 32767) := h1
    omega
theorem flatMap_wt {f : Tree → List UInt8} {c : Nat} : ∀ {l : List Tree}, (∀ x, x ∈ l → (f x).length ≤ c * x.wt) → (l.flatMap f).length ≤ c * wts l
  | [], _ => by simp
  | x :: l, h => by
    have h1 := h x (List.mem_cons_self ..)
    have h2 := flatMap_wt (l := l) fun y hy => h y (List.mem_cons_of_mem _ hy)
    simp only [List.flatMap_cons, List.length_append, wts, Nat.mul_add]
    omega
theorem pVal_wt (flex : Bool) (k : Int) (pp : Tree → List UInt8) (null : Bool) (t : Tree) (c : Nat) (h : (pp t).length ≤ c * t.wt) : (pVal flex k pp null t).length ≤ (c + 26) * t.wt := by
  have e := wt_eq t
  have hw := (whole_le t.s).2
  have hc : c * t.wt + 26 * t.wt = (c + 26) * t.wt := (Nat.add_mul c 26 t.wt).symm
  have hx : ∀ b : Bool, (if b then ([] : List UInt8) else whole t.s).length ≤ t.s.length := by
    intro b
    cases b
    · simpa using hw
    · simp
  unfold pVal
  split
  · simp; omega
  split
  · simp [uuid16]; omega
  split
  · rw [List.length_append]
    have := counted_len flex null (if null then ([] : List UInt8) else whole t.s).length 2
    have := hx null
    omega
  split
  · rw [List.length_append]
    have := counted_len flex null (if null then ([] : List UInt8) else whole t.s).length 4
    have := hx null
    omega
  split
  · omega
  · have := fixed_len t.n (pWidth k)
    omega
/-- So many octets at the most for each thing that the tree holds. -/
def cz : PFs → Nat
  | .nil => 0
  | .cons _ _ _ _ _ _ _ sub rest => cz sub + 68 + cz rest
theorem pFields_wt (ver : Int) (flex : Bool) : ∀ (fs : PFs) (i : Nat) (t : Tree), (pFields ver flex fs i t).length ≤ cz fs * t.wt
  | .nil, _, _ => by simp [pFields]
  | .cons k fr to nu tg df ok sub rest, i, t => by
    have hr := pFields_wt ver flex rest (i + 1) t
    have hs : ∀ t', (pFields ver flex sub 0 t' ++ pTail flex t').length ≤ (cz sub + 31) * t'.wt := fun t' => by
      have h1 := pFields_wt ver flex sub 0 t'
      have h2 := pTail_wt flex t'
      rw [List.length_append, Nat.add_mul]
      omega
    have ha := wt_at t i
    have ew := wt_eq (atT t i)
    simp only [pFields, cz, List.length_append]
    rw [Nat.add_mul]
    refine Nat.add_le_add ?_ hr
    have hm : (cz sub + 68) * (atT t i).wt ≤ (cz sub + 68) * t.wt := Nat.mul_le_mul_left _ ha
    refine Nat.le_trans ?_ hm
    have hsp : (cz sub + 68) * (atT t i).wt = (cz sub + 57) * (atT t i).wt + 11 * (atT t i).wt := by rw [← Nat.add_mul]
    have hsq : (cz sub + 57) * (atT t i).wt = (cz sub + 31) * (atT t i).wt + 26 * (atT t i).wt := by rw [← Nat.add_mul]
    split
    · unfold pField
      split
      · rw [List.length_append]
        have h1 := counted_len flex (pNull nu ver (atT t i)) (pThings (pNull nu ver (atT t i)) (atT t i)).length 4
        have h2 : ((pThings (pNull nu ver (atT t i)) (atT t i)).flatMap (pVal flex ok (fun t' => pFields ver flex sub 0 t' ++ pTail flex t') false)).length ≤ (cz sub + 31 + 26) * wts (pThings (pNull nu ver (atT t i)) (atT t i)) :=
          flatMap_wt fun x _ => pVal_wt flex ok _ false x _ (hs x)
        have h3 : wts (pThings (pNull nu ver (atT t i)) (atT t i)) ≤ wts (atT t i).l := by
          unfold pThings
          split
          · simp [wts]
          · exact wts_take _ _
        have h4 : (cz sub + 31 + 26) * wts (pThings (pNull nu ver (atT t i)) (atT t i)) ≤ (cz sub + 57) * (atT t i).wt := Nat.mul_le_mul_left _ (by omega)
        omega
      · split
        · have h1 := hs (atT t i)
          dsimp only
          split
          · have : (fixed (-1) 1).length ≤ 8 := fixed_len _ _
            omega
          · have h2 : (fixed 1 1).length = 1 := rfl
            rw [List.length_append, h2]
            omega
        · have h1 := pVal_wt flex k (fun t' => pFields ver flex sub 0 t' ++ pTail flex t') (pNull nu ver (atT t i)) (atT t i) _ (hs _)
          have h2 : (cz sub + 31 + 26) * (atT t i).wt = (cz sub + 57) * (atT t i).wt := rfl
          omega
    · simp
theorem pPart_wt (ver : Int) (flex : Bool) (fs : PFs) (t : Tree) : (pPart ver flex fs t).length ≤ (cz fs + 31) * t.wt := by
  have h1 := pFields_wt ver flex fs 0 t
  have h2 := pTail_wt flex t
  unfold pPart
  rw [List.length_append, Nat.add_mul]
  omega
end Go.Proofs.YtfchajjllhndlabGreatDoor
