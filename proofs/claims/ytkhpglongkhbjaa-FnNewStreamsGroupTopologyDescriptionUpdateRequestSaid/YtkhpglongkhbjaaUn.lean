/- The reference's unknown tags: laid in by rising numbers, each once. -/
import Derived.Test.YtkhpglongkhbjaaSpg
import Derived.Test.YtkhpglongkhbjaaUp
import Derived.Laws.OwnMore
import Derived.OneCell
namespace Go.Proofs.Ytkhpglongkhbjaa
open Go Go.RowKit
set_option linter.unusedVariables false

theorem ownsRow_stay {base n k size : Nat} {e : TypeId} {w w' : World} {v : Value} {xs : List Value} (h : w.ownsRow base e size v k xs) (hb : Below n w w') (hn : w.heap.size ≤ n) : w'.ownsRow base e size v k xs := by
  refine ⟨h.1, ?_⟩
  rcases h.2 with hz | ⟨g, cap, cur, hv, hbg, hg, rest⟩
  · exact .inl hz
  · have hlt : g < w.heap.size := (Array.getElem?_eq_some_iff.1 hg).1
    exact .inr ⟨g, cap, cur, hv, hbg, (hb.block g (by omega)).trans hg, rest⟩
theorem ownsRow_mono {w : World} {base base' : Nat} {e : TypeId} {size : Nat} {v : Value} {n : Nat} {xs : List Value} (h : w.ownsRow base e size v n xs) (hb : base' ≤ base) : w.ownsRow base' e size v n xs :=
  ⟨h.1, h.2.imp id fun ⟨g, cap, cur, hv, hg, r⟩ => ⟨g, cap, cur, hv, Nat.le_trans hb hg, r⟩⟩
theorem ownsRow_nz {base k size : Nat} {e : TypeId} {w : World} {v : Value} {xs : List Value} (h : w.ownsRow base e size v k xs) (hk : k ≠ 0) : ∃ g cap, v = .slice (some ⟨g, 0, none⟩) k cap ∧ base ≤ g ∧ g < w.heap.size := by
  rcases h.2 with ⟨-, hz⟩ | ⟨g, cap, cur, hv, hbg, hg, rest⟩
  · exact absurd hz hk
  · exact ⟨g, cap, hv, hbg, (Array.getElem?_eq_some_iff.1 hg).1⟩
theorem ownsRow_shape {base k size : Nat} {e : TypeId} {w : World} {v : Value} {xs : List Value} (h : w.ownsRow base e size v k xs) : ∃ a cap, v = .slice a k cap := by
  rcases h.2 with ⟨rfl, rfl⟩ | ⟨g, cap, cur, rfl, -⟩
  · exact ⟨none, 0, rfl⟩
  · exact ⟨_, _, rfl⟩
theorem tagInfo : (Try.prog.info? 87).map (fun i => (i.zero, i.size, i.bytes)) = some (some (.agg #[.int .u32 0, .slice none 0 0]), 2, 32) := by kernel_rfl
/-- Each tag's octets lie below B. -/
def TVs (B : Nat) (w : World) (L : List TV) : Prop := ∀ t ∈ L, t.1 ≤ 4294967295 ∧ RL B w t.2.1 t.2.2
theorem TVs.below {B : Nat} {w w' : World} {L : List TV} (h : TVs B w L) (hk : Below B w w') : TVs B w' L := fun t ht => ⟨(h t ht).1, (h t ht).2.below hk⟩
theorem ownsU_cells {base : Nat} {w : World} {g cap : Nat} {L : List TV} {n : Nat} (h : w.ownsRow base 87 2 (.slice (some ⟨g, 0, none⟩) n cap) n (cellsU L)) (hn : n = L.length) {i : Nat} {t : TV} (hi : L[i]? = some t) :
    w.cell? ⟨g, i * 2, none⟩ = some (.int .u32 (t.1 : Int)) ∧ w.cell? ⟨g, i * 2 + 1, none⟩ = some t.2.1 := by
  have hl := (List.getElem?_eq_some_iff.1 hi).1
  have h0 := h.cellAt (2 * i) (by omega)
  have h1 := h.cellAt (2 * i + 1) (by omega)
  rw [cellsU_get0 L i t hi] at h0
  rw [cellsU_get1 L i t hi] at h1
  rw [Nat.mul_comm i 2]
  exact ⟨h0, h1⟩
theorem ownsU_rep {base B : Nat} {w : World} {v : Value} {L : List TV} (h : w.ownsRow base 87 2 v L.length (cellsU L)) (hL : TVs B w L) (hB : B ≤ w.heap.size) : RepU w.heap.size w (bytesU L) v := by
  have hlen : (bytesU L).length = L.length := by simp [bytesU]
  rcases Nat.eq_zero_or_pos L.length with hz | hz
  · have e : L = [] := List.eq_nil_of_length_eq_zero hz
    subst e
    rcases h.2 with ⟨rfl, -⟩ | ⟨g, cap, cur, rfl, -, -, h1, h2, -⟩
    · exact ⟨none, 0, rfl, Nat.le_refl _, by omega, fun h => absurd rfl h⟩
    · exact ⟨_, cap, rfl, Nat.zero_le _, by unfold maxLen at h2; omega, fun h => absurd rfl h⟩
  · have h' := h
    obtain ⟨-, hs⟩ := h
    rcases hs with ⟨-, h0⟩ | ⟨g, cap, cur, rfl, hbg, hg, h1, h2, -⟩
    · omega
    · refine ⟨some ⟨g, 0, none⟩, cap, by rw [hlen], by rw [hlen]; exact h1, by unfold maxLen at h2; omega, fun _ => ⟨g, 0, rfl, (Array.getElem?_eq_some_iff.1 hg).1, fun i kv hi => ?_⟩⟩
      unfold bytesU at hi
      rw [List.getElem?_map, Option.map_eq_some_iff] at hi
      obtain ⟨t, ht, rfl⟩ := hi
      obtain ⟨c0, c1⟩ := ownsU_cells h' rfl ht
      obtain ⟨l1, l2⟩ := hL t (List.mem_of_getElem? ht)
      rw [Nat.mul_comm i 2] at c0 c1
      rw [Nat.zero_add]
      exact ⟨c0, l1, _, c1, l2.mono hB⟩
theorem keepU {n g : Nat} {w w' : World} {a b : Nat} {x y : Value} {B : Nat} (hb : Below n w w') (hg : g < n) (hB : B < n) (h : w.cell? ⟨g, a, none⟩ = some x ∧ w.cell? ⟨B, b, none⟩ = some y) : w'.cell? ⟨g, a, none⟩ = some x ∧ w'.cell? ⟨B, b, none⟩ = some y :=
  ⟨(hb.cell (p := ⟨g, a, none⟩) hg).trans h.1, (hb.cell (p := ⟨B, b, none⟩) hB).trans h.2⟩
theorem bytesU_ins {L : List TV} {k : Nat} {x : Value} {s : List UInt8} : bytesU (insG k (x, s) L) = insU k s (bytesU L) := by
  unfold bytesU
  rw [insU_insG]
  exact insG_map (fun p : Value × List UInt8 => p.2) k (x, s) L
theorem shift_len {α : Type} {l : List α} {k : Nat} {x : α} : (l.take k ++ x :: l.drop k).length = l.length + 1 := by
  simp
  omega

theorem Below_drewM {B : Nat} {a w : World} (h : Below B a w) (n : Nat) : Below B a (w.drewN n) := ⟨h.os, h.tape, h.output, h.size, h.block⟩
theorem boxApart {w : World} {base b : Nat} {v : Value} {L : List TV} {c0 c1 : Value} (h : w.ownsRow base 87 2 v L.length (cellsU L)) (hnil : L = [] → v = .slice none 0 0) (hb : base ≤ b) :
    ∃ base2, base ≤ base2 ∧ base2 ≤ b + 1 ∧ w.ownsRow base2 87 2 v L.length (cellsU L) ∧
      ∀ (w6 : World) (v' : Value) (xs : List Value), w6.ownsRow base2 87 2 v' (L.length + 1) xs → Blk w6 b [c0, c1] 87 → v'.ownBlock ≠ some b := by
  by_cases hL : L = []
  · subst hL
    obtain rfl := hnil rfl
    refine ⟨b + 1, by omega, Nat.le_refl _, World.ownsRow_nil _ _ _ 2, fun w6 v' xs h6 _ e => ?_⟩
    have := (h6.lt b e).1
    omega
  · refine ⟨base, Nat.le_refl _, by omega, h, fun w6 v' xs h6 hB e => ?_⟩
    rcases h6.2 with ⟨rfl, -⟩ | ⟨g, cap, cur, rfl, -, hg, h1, -, h3, -⟩
    · simp [Value.ownBlock] at e
    · simp only [Value.ownBlock, Option.some.injEq] at e
      subst e
      unfold Blk at hB
      rw [hB] at hg
      simp only [Option.some.injEq, Obj.cells.injEq] at hg
      have hc : cur.size = 2 := by rw [← hg.1]; rfl
      have : 0 < L.length := List.length_pos_iff.2 hL
      omega

set_option maxRecDepth 100000 in
set_option maxHeartbeats 12800000 in
theorem spUnknown (fs : PFs) (ht : fs.noTag) (fv uv : Value) (u : List (Nat × List UInt8)) (B base : Nat) (w : World) (hB : B ≤ base) (hb : base ≤ w.heap.size) (hf : RepF B w fs fv) (hu : RepU B w u uv) :
    Calls Try.prog 37 #[fv, uv] w fun e w' => ∃ v, e = .returned v ∧ RepU w'.heap.size w' (unk u) v ∧ Below base w w' := by
  obtain ⟨ua, ucap, rfl, hul, huc, hur⟩ := hu
  have K := Lib.hid (spKnown0 fs ht fv B base w hB hb hf)
  obtain ⟨fa, fcap, rfl, -⟩ := hf
  have HU := Lib.hid hur
  clear hur
  obtain ⟨m, hm⟩ : ∃ m, min u.length 32767 = m := ⟨_, rfl⟩
  have hunk : unk u = unkTo m u := by rw [← hm]; exact unk_unkTo u
  have hml : m ≤ u.length ∧ m ≤ 32767 := by omega
  have UNK := Lib.hid hunk
  clear hunk
  go_enter Try.func37, Try.ntmps37
  go_wp2_with fail
  refine K.out.mono ?_
  rintro e w1 ⟨rfl, hb1⟩
  have HB1 := Lib.hid hb1
  have z1 := hb1.size
  clear hb1
  go_wp2_with fail
  simp only [takeCount, hm]
  go_loopw [6, 19] (fun v i wq => ∃ (k : Nat) (L : List TV), i = .int .i64 (k : Nat) ∧ k ≤ m ∧ wq.ownsRow w1.heap.size 87 2 v L.length (cellsU L) ∧ (L = [] → v = .slice none 0 0) ∧ bytesU L = unkTo k u ∧ TVs B w L ∧ L.length ≤ k ∧ Below w1.heap.size w1 wq)
    (fun _ i _ => m - (intOf i).toNat)
  case atStart => exact ⟨0, [], rfl, Nat.zero_le _, World.ownsRow_nil _ _ _ 2, fun _ => rfl, rfl, (fun t h => nomatch h), Nat.le_refl _, Below.refl _ _⟩
  case round =>
    obtain ⟨k, L, rfl, hk, hown, hnil, hby, hL, hLk, hbk⟩ := hrel
    rename World => wo
    by_cases hkm : k < m
    · obtain ⟨kv, hkv⟩ : ∃ kv, u[k]? = some kv := ⟨u[k]'(by omega), List.getElem?_eq_getElem (by omega)⟩
      obtain ⟨p, q, rfl, hp, hc⟩ := HU.out (by intro e; subst e; simp at hkv)
      obtain ⟨c0, hkey, x, c1, hx⟩ := hc k kv hkv
      obtain ⟨xa, xcap, rfl, -⟩ := id hx
      rw [Nat.mul_comm 2 k] at c0 c1
      have hpw : p < w1.heap.size := by omega
      have d0 := (hbk.cell (p := ⟨p, q + k * 2, none⟩) hpw).trans ((HB1.out.cell (p := ⟨p, q + k * 2, none⟩) (by show p < base; omega)).trans c0)
      have d1 := (hbk.cell (p := ⟨p, q + k * 2 + 1, none⟩) hpw).trans ((HB1.out.cell (p := ⟨p, q + k * 2 + 1, none⟩) (by show p < base; omega)).trans c1)
      obtain ⟨va, vcap, rfl⟩ := ownsRow_shape hown
      have hvb : (Value.slice va L.length vcap).ownBlock ≠ some wo.heap.size := fun h => Nat.lt_irrefl _ (hown.lt _ h).2
      have zr := hbk.size
      have hk0 : ¬ ((kv.1 : Nat) : Int) < 0 := by omega
      have hsA : (wo.alloc (.cells #[.int .u32 (kv.1 : Int), .slice xa kv.2.length xcap] 87)).heap.size = wo.heap.size + 1 := by simp
      have ZA := Lib.hid (And.intro (hown.alloc (.cells #[.int .u32 (kv.1 : Int), .slice xa kv.2.length xcap] 87)) (And.intro (Blk.alloc_new wo [.int .u32 (kv.1 : Int), .slice xa kv.2.length xcap] 87) (hbk.alloc hbk.size (.cells #[.int .u32 (kv.1 : Int), .slice xa kv.2.length xcap] 87))))
      have hLl : L.length ≤ 32767 := by omega
      have HX := Lib.hid hx
      clear hown hbk hx c0 c1 hc
      go_wp2_with fail
      obtain ⟨wA, hwA⟩ : ∃ wA, wA = wo.alloc (.cells #[.int .u32 (kv.1 : Int), .slice xa kv.2.length xcap] 87) := ⟨_, rfl⟩
      have ZA := Lib.hid ZA.out
      rw [← hwA] at ZA hsA ⊢
      clear hwA d0 d1
      go_loopw [9] (fun i w2 => ∃ j : Nat, i = .int .i64 (j : Nat) ∧ j ≤ posU kv.1 L ∧ Below wA.heap.size wA w2) (fun i _ => L.length - (intOf i).toNat)
      case atStart => exact ⟨0, rfl, Nat.zero_le _, Below.refl _ _⟩
      case round =>
        obtain ⟨j, rfl, hj, hbj⟩ := hrel
        rename World => w2
        have hown2 := ownsRow_stay ZA.out.1 hbj (Nat.le_refl _)
        have hbox2 := ZA.out.2.1.below hbj (by omega)
        have hbk2 : Below w1.heap.size w1 w2 := ZA.out.2.2.trans (hbj.mono (by omega))
        have x0 := hbox2.cell_some (i := 0) rfl
        have x1 := hbox2.cell_some (i := 1) rfl
        by_cases hjl : j < L.length
        · obtain ⟨g, cap, hve, hg1, hg2⟩ := ownsRow_nz hown2 (by omega)
          cases hve
          have hLj : L[j]? = some L[j] := List.getElem?_eq_getElem hjl
          obtain ⟨e0, e1⟩ := ownsU_cells hown2 rfl hLj
          obtain ⟨kj, hkj⟩ : ∃ kj, L[j].1 = kj := ⟨_, rfl⟩
          rw [hkj] at e0
          by_cases hlt : kj < kv.1
          · have FIN := Lib.hid (posU_next kv.1 L j _ hj hLj (by rw [hkj]; exact hlt))
            have FB := Lib.hid hbj.drew
            clear hown2 hbox2 hbk2 hbj e1 hLj
            go_wp2_with fail
            go_region_held3 (fun w' => w'.cell? ⟨g, j * 2, none⟩ = some (.int .u32 (kj : Int)) ∧ w'.cell? ⟨wo.heap.size, 0, none⟩ = some (.int .u32 (kv.1 : Int))) (first | exact ⟨e0, x0⟩) (first | fail)
            go_wp2
            go_roundw
            case rel => exact ⟨j + 1, by go_num, FIN.out, FB.out⟩
            case measure => simp [intOf]; omega
          · have hpos : j = posU kv.1 L := posU_eq kv.1 L j hj (fun t ht => by rw [hLj] at ht; cases ht; omega)
            by_cases heq : kj = kv.1
            · have hins : bytesU L = unkTo (k + 1) u := by
                rw [unkTo_succ hkv, ← hby, ← bytesU_ins (x := .slice xa kv.2.length xcap), insG_there (t := L[j]) (by rw [← hpos]; exact hLj) (by rw [hkj]; exact heq)]
              have Z := Lib.hid (And.intro hown2 (And.intro hbk2 hins))
              subst heq
              clear hown2 hbox2 hbk2 hbj e1 hLj hins hpos
              go_wp2_with fail
              go_region_held3 (fun w' => w'.cell? ⟨g, j * 2, none⟩ = some (.int .u32 (kv.1 : Int)) ∧ w'.cell? ⟨wo.heap.size, 0, none⟩ = some (.int .u32 (kv.1 : Int))) (first | exact ⟨e0, x0⟩) (first | fail)
              go_wp2_with fail
              go_region_held3 (fun w' => w'.cell? ⟨g, j * 2, none⟩ = some (.int .u32 (kv.1 : Int)) ∧ w'.cell? ⟨wo.heap.size, 0, none⟩ = some (.int .u32 (kv.1 : Int))) (first | exact ⟨e0, x0⟩) (first | fail)
              go_wp2
              go_roundw
              case rel => exact ⟨k + 1, L, by go_num, by omega, Z.out.1, hnil, Z.out.2.2, hL, by omega, Z.out.2.1.drew.drew⟩
              case measure => simp [intOf]; omega
            · have hnew : ∀ t, L[posU kv.1 L]? = some t → t.1 ≠ kv.1 := fun t ht => by rw [← hpos, hLj] at ht; cases ht; omega
              have Z := Lib.hid (show w2.drew.drew.ownsRow w1.heap.size 87 2 (.slice (some ⟨g, 0, none⟩) L.length vcap) L.length (cellsU L) ∧ Blk w2.drew.drew wo.heap.size [.int .u32 (kv.1 : Int), .slice xa kv.2.length xcap] 87 ∧ Below w1.heap.size w1 w2.drew.drew from ⟨hown2, hbox2, hbk2.drew.drew⟩)
              subst hpos
              clear hown2 hbox2 hbk2 hbj e1 hLj
              go_wp2_with fail
              go_region_held3 (fun w' => w'.cell? ⟨g, posU kv.1 L * 2, none⟩ = some (.int .u32 (kj : Int)) ∧ w'.cell? ⟨wo.heap.size, 0, none⟩ = some (.int .u32 (kv.1 : Int))) (first | exact ⟨e0, x0⟩) (first | fail)
              go_wp2_with fail
              go_region_held3 (fun w' => w'.cell? ⟨g, posU kv.1 L * 2, none⟩ = some (.int .u32 (kj : Int)) ∧ w'.cell? ⟨wo.heap.size, 0, none⟩ = some (.int .u32 (kv.1 : Int))) (first | exact ⟨e0, x0⟩) (first | fail)
              clear e0
              have hzz : w2.drew.drew.heap.size = w2.heap.size := rfl
              generalize w2.drew.drew = wz at *
              go_wp2_with (at_builtin; refine halted ?_)
              case roundEnd =>
                exfalso
                rename_i hbad
                first
                  | omega
                  | (rcases hbad with h | h
                     · omega
                     · have := eq_of_beq h
                       omega)
              obtain ⟨hown2, hbox2, hbk2⟩ := Z.out
              obtain ⟨base2, hz1, hz2, hown2', hap⟩ := boxApart (b := wo.heap.size) (c0 := .int .u32 (kv.1 : Int)) (c1 := .slice xa kv.2.length xcap) hown2 hnil (by omega)
              have hs2 := hbox2.lt
              obtain ⟨i0, hi, hz, hs, hby⟩ := info_parts tagInfo
              have c5 := Blk.alloc_new wz [.int .u32 0, .slice none 0 0] 87
              have hzz' := hzz
              refine wpl_append_src (by rfl) (.tmp 59) (.tmp 61) 33 33 (by rfl) base2 87 i0 _ 2 32 Try.underlying33 hi hz hs hby (by rfl) (.slice (some ⟨g, 0, none⟩) L.length vcap) L.length (cellsU L) (by rfl) (hown2'.alloc _) (.slice (some ⟨w2.heap.size, 0, none⟩) 1 1) 1 [.int .u32 0, .slice none 0 0] (by rfl)
                (Src.ofSlice _ Try.underlying33 _ 1 1 _ rfl ?_ ?_) (by unfold maxLen; omega) (by omega) (by simp; omega) ?_
              · intro i u hu
                rw [Addr.add_lit, ← hzz]
                exact c5.cell_some (by simpa using hu)
              · intro u hu
                simp only [List.mem_cons, List.not_mem_nil, or_false] at hu
                rcases hu with rfl | rfl <;> rfl
              intro v' w6 hown6 hg6 _
              have hb6 : Below w1.heap.size wz w6 := ((Below.refl w1.heap.size wz).alloc (by have := hbk2.size; omega) _).grown hg6 (by simp; have := hbk2.size; omega) (fun k hk => (hown2.lt k hk).1)
              have hbox6 : Blk w6 wo.heap.size [.int .u32 (kv.1 : Int), .slice xa kv.2.length xcap] 87 := by
                refine (hg6.block _ ?_ ?_).trans (hbox2.alloc _)
                · simp; omega
                · intro e
                  exact hvb e.symm
              have hne := hap w6 v' _ hown6 hbox6
              have hown6 := ownsRow_mono hown6 hz1
              obtain ⟨g', cap', rfl, hg1, hg2⟩ := ownsRow_nz hown6 (by omega)
              have hne : g' ≠ wo.heap.size := fun e => hne (by simp [Value.ownBlock, e])
              have hbk6 : Below w1.heap.size w1 w6 := hbk2.trans hb6
              have Q6 := Lib.hid (And.intro hown6 (And.intro hbox6 hbk6))
              clear hown6 hbox6 hbk6 hb6 hg6 hap hown2 hown2' hbox2 hbk2 hi hz hs hby c5 Z
              go_wp2_with fail
              go_loopw [10] (fun i w3 => ∃ (s : Nat) (z : TV), i = .int .i64 (s : Nat) ∧ posU kv.1 L ≤ s ∧ s ≤ L.length ∧ w3.ownsRow w1.heap.size 87 2 (.slice (some ⟨g', 0, none⟩) (L.length + 1) cap') (L.length + 1) (cellsU (L.take s ++ z :: L.drop s)) ∧
                  Blk w3 wo.heap.size [.int .u32 (kv.1 : Int), .slice xa kv.2.length xcap] 87 ∧ Below w1.heap.size w1 w3) (fun i _ => (intOf i).toNat)
              case atStart =>
                obtain ⟨h1, h2, h3⟩ := Q6.out
                refine ⟨L.length, (0, .slice none 0 0, []), by go_num, posU_le _ _, Nat.le_refl _, ?_, h2, h3⟩
                rw [List.take_of_length_le (Nat.le_refl _), List.drop_of_length_le (Nat.le_refl _), cellsU_append]
                exact h1
              case round =>
                obtain ⟨s, z, rfl, hs1, hs2, hown3, hbox3, hbk3⟩ := hrel
                rename World => w3
                rcases Nat.lt_or_ge (posU kv.1 L) s with hlt | hge
                · obtain ⟨s', rfl⟩ : ∃ s', s = s' + 1 := ⟨s - 1, by omega⟩
                  have hsl : s' < L.length := by omega
                  obtain ⟨a0, a1⟩ := ownsU_cells hown3 shift_len.symm (shift_get hsl)
                  obtain ⟨b0, b1⟩ := ownsU_cells (i := s' + 1) (t := z) hown3 shift_len.symm (shift_at (by omega))
                  have f0 := hown3.frozenAt ((s' + 1) * 2)
                  have f1 := hown3.frozenAt ((s' + 1) * 2 + 1)
                  obtain ⟨la, lcap, hle, -⟩ := (hL _ (List.getElem_mem hsl)).2
                  rw [hle] at a1
                  have hsle : ((L[s'].1 : Nat) : Int) = (L[s'].1 : Int) := rfl
                  have e1 : (((s' + 1 : Nat) : Int)) = (s' : Int) + 1 := by omega
                  have st1 := hown3.stored ((s' + 1) * 2) (.int .u32 (L[s'].1 : Int))
                  have st2 := st1.1.stored ((s' + 1) * 2 + 1) (.slice la (L[s'].2.2).length lcap)
                  have hfin : ∃ (s : Nat) (z : TV), Value.int .i64 (s' : Int) = .int .i64 (s : Nat) ∧ posU kv.1 L ≤ s ∧ s ≤ L.length ∧ ((w3.setCell ⟨g', (s' + 1) * 2, none⟩ (.int .u32 (L[s'].1 : Int))).setCell ⟨g', (s' + 1) * 2 + 1, none⟩ (.slice la (L[s'].2.2).length lcap)).ownsRow w1.heap.size 87 2 (.slice (some ⟨g', 0, none⟩) (L.length + 1) cap') (L.length + 1) (cellsU (L.take s ++ z :: L.drop s)) ∧
                      Blk ((w3.setCell ⟨g', (s' + 1) * 2, none⟩ (.int .u32 (L[s'].1 : Int))).setCell ⟨g', (s' + 1) * 2 + 1, none⟩ (.slice la (L[s'].2.2).length lcap)) wo.heap.size [.int .u32 (kv.1 : Int), .slice xa kv.2.length xcap] 87 ∧ Below w1.heap.size w1 ((w3.setCell ⟨g', (s' + 1) * 2, none⟩ (.int .u32 (L[s'].1 : Int))).setCell ⟨g', (s' + 1) * 2 + 1, none⟩ (.slice la (L[s'].2.2).length lcap)) := by
                    refine ⟨s', L[s'], rfl, by omega, by omega, ?_, (hbox3.set_other (fun e => hne e.symm) _ _).set_other (fun e => hne e.symm) _ _, (hbk3.setCell (p := ⟨g', (s' + 1) * 2, none⟩) hg1 _).setCell (p := ⟨g', (s' + 1) * 2 + 1, none⟩) hg1 _⟩
                    have h := st2.1
                    have e2 := cellsU_set (L.take (s' + 1) ++ z :: L.drop (s' + 1)) (s' + 1) L[s'] (by rw [shift_len]; omega)
                    rw [hle, Nat.mul_comm 2 (s' + 1), shift_set hsl] at e2
                    rw [e2] at h
                    exact h
                  have FIN := Lib.hid hfin
                  clear hfin hown3 hbox3 hbk3 st1 st2 hle Q6
                  rw [e1] at *
                  go_wp2
                  go_roundw
                  case rel => exact FIN.out
                  case measure => simp [intOf]
                · obtain rfl : s = posU kv.1 L := by omega
                  obtain ⟨x0, x1⟩ : w3.cell? ⟨wo.heap.size, 0, none⟩ = some (.int .u32 (kv.1 : Int)) ∧ w3.cell? ⟨wo.heap.size, 1, none⟩ = some (.slice xa kv.2.length xcap) := ⟨hbox3.cell_some rfl, hbox3.cell_some rfl⟩
                  obtain ⟨b0, b1⟩ := ownsU_cells (i := posU kv.1 L) (t := z) hown3 shift_len.symm (shift_at (posU_le _ _))
                  have f0 := hown3.frozenAt (posU kv.1 L * 2)
                  have f1 := hown3.frozenAt (posU kv.1 L * 2 + 1)
                  have st1 := hown3.stored (posU kv.1 L * 2) (.int .u32 (kv.1 : Int))
                  have st2 := st1.1.stored (posU kv.1 L * 2 + 1) (.slice xa kv.2.length xcap)
                  have hlen : (L.take (posU kv.1 L) ++ (kv.1, Value.slice xa kv.2.length xcap, kv.2) :: L.drop (posU kv.1 L)).length = L.length + 1 := shift_len
                  have hfin : ∃ (k' : Nat) (L' : List TV), Value.int .i64 ((k : Int) + 1) = .int .i64 (k' : Nat) ∧ k' ≤ m ∧ ((w3.setCell ⟨g', posU kv.1 L * 2, none⟩ (.int .u32 (kv.1 : Int))).setCell ⟨g', posU kv.1 L * 2 + 1, none⟩ (.slice xa kv.2.length xcap)).ownsRow w1.heap.size 87 2 (.slice (some ⟨g', 0, none⟩) (L.length + 1) cap') L'.length (cellsU L') ∧ (L' = [] → Value.slice (some ⟨g', 0, none⟩) (L.length + 1) cap' = .slice none 0 0) ∧
                      bytesU L' = unkTo k' u ∧ TVs B w L' ∧ L'.length ≤ k' ∧ Below w1.heap.size w1 ((w3.setCell ⟨g', posU kv.1 L * 2, none⟩ (.int .u32 (kv.1 : Int))).setCell ⟨g', posU kv.1 L * 2 + 1, none⟩ (.slice xa kv.2.length xcap)) := by
                    refine ⟨k + 1, L.take (posU kv.1 L) ++ (kv.1, Value.slice xa kv.2.length xcap, kv.2) :: L.drop (posU kv.1 L), by go_num, by omega, ?_, fun h => by simp at h, ?_, ?_, by omega, (hbk3.setCell (p := ⟨g', posU kv.1 L * 2, none⟩) hg1 _).setCell (p := ⟨g', posU kv.1 L * 2 + 1, none⟩) hg1 _⟩
                    · have h := st2.1
                      have e2 := cellsU_set (L.take (posU kv.1 L) ++ z :: L.drop (posU kv.1 L)) (posU kv.1 L) (kv.1, Value.slice xa kv.2.length xcap, kv.2) (by rw [shift_len]; have := posU_le kv.1 L; omega)
                      rw [Nat.mul_comm 2 (posU kv.1 L), shift_fin (posU_le _ _)] at e2
                      rw [e2] at h
                      rw [hlen]
                      exact h
                    · rw [unkTo_succ hkv, ← hby, ← bytesU_ins (x := .slice xa kv.2.length xcap), insG_new hnew]
                    · rw [← insG_new (v := (Value.slice xa kv.2.length xcap, kv.2)) hnew]
                      intro t ht
                      rcases insG_mem ht with rfl | ht
                      · exact ⟨hkey, HX.out⟩
                      · exact hL t ht
                  have FIN := Lib.hid hfin
                  clear hfin hown3 hbox3 hbk3 st1 st2 Q6
                  go_wp2
                  go_roundw
                  case rel => exact FIN.out
                  case measure => simp [intOf]; omega
        · have hpos : j = posU kv.1 L := posU_eq kv.1 L j hj (fun t ht => by rw [List.getElem?_eq_none (by omega)] at ht; cases ht)
          have hnew : ∀ t, L[posU kv.1 L]? = some t → t.1 ≠ kv.1 := fun t ht => by rw [← hpos, List.getElem?_eq_none (by omega)] at ht; cases ht
          have Z := Lib.hid (show w2.drew.drew.ownsRow w1.heap.size 87 2 (.slice va L.length vcap) L.length (cellsU L) ∧ Blk w2.drew.drew wo.heap.size [.int .u32 (kv.1 : Int), .slice xa kv.2.length xcap] 87 ∧ Below w1.heap.size w1 w2.drew.drew from ⟨hown2, hbox2, hbk2.drew.drew⟩)
          subst hpos
          clear hown2 hbox2 hbk2 hbj
          go_wp2_with fail
          go_region
          have hkd : decide (((kv.1 : Nat) : Int) < 0) = false := by simp
          go_wp2_with fail
          go_region
          have hzz : w2.drew.drew.heap.size = w2.heap.size := rfl
          generalize w2.drew.drew = wz at *
          go_wp2_with (at_builtin; refine halted ?_)
          obtain ⟨hown2, hbox2, hbk2⟩ := Z.out
          obtain ⟨base2, hz1, hz2, hown2', hap⟩ := boxApart (b := wo.heap.size) (c0 := .int .u32 (kv.1 : Int)) (c1 := .slice xa kv.2.length xcap) hown2 hnil (by omega)
          have hs2 := hbox2.lt
          obtain ⟨i0, hi, hz, hs, hby⟩ := info_parts tagInfo
          have c5 := Blk.alloc_new wz [.int .u32 0, .slice none 0 0] 87
          have hzz' := hzz
          refine wpl_append_src (by rfl) (.tmp 59) (.tmp 61) 33 33 (by rfl) base2 87 i0 _ 2 32 Try.underlying33 hi hz hs hby (by rfl) (.slice va L.length vcap) L.length (cellsU L) (by rfl) (hown2'.alloc _) (.slice (some ⟨w2.heap.size, 0, none⟩) 1 1) 1 [.int .u32 0, .slice none 0 0] (by rfl)
            (Src.ofSlice _ Try.underlying33 _ 1 1 _ rfl ?_ ?_) (by unfold maxLen; omega) (by omega) (by simp; omega) ?_
          · intro i u hu
            rw [Addr.add_lit, ← hzz]
            exact c5.cell_some (by simpa using hu)
          · intro u hu
            simp only [List.mem_cons, List.not_mem_nil, or_false] at hu
            rcases hu with rfl | rfl <;> rfl
          intro v' w6 hown6 hg6 _
          have hb6 : Below w1.heap.size wz w6 := ((Below.refl w1.heap.size wz).alloc (by have := hbk2.size; omega) _).grown hg6 (by simp; have := hbk2.size; omega) (fun k hk => (hown2.lt k hk).1)
          have hbox6 : Blk w6 wo.heap.size [.int .u32 (kv.1 : Int), .slice xa kv.2.length xcap] 87 := by
            refine (hg6.block _ ?_ ?_).trans (hbox2.alloc _)
            · simp; omega
            · intro e
              exact hvb e.symm
          have hne := hap w6 v' _ hown6 hbox6
          have hown6 := ownsRow_mono hown6 hz1
          obtain ⟨g', cap', rfl, hg1, hg2⟩ := ownsRow_nz hown6 (by omega)
          have hne : g' ≠ wo.heap.size := fun e => hne (by simp [Value.ownBlock, e])
          have hbk6 : Below w1.heap.size w1 w6 := hbk2.trans hb6
          have Q6 := Lib.hid (And.intro hown6 (And.intro hbox6 hbk6))
          clear hown6 hbox6 hbk6 hb6 hg6 hap hown2 hown2' hbox2 hbk2 hi hz hs hby c5 Z
          go_wp2_with fail
          go_loopw [10] (fun i w3 => ∃ (s : Nat) (z : TV), i = .int .i64 (s : Nat) ∧ posU kv.1 L ≤ s ∧ s ≤ L.length ∧ w3.ownsRow w1.heap.size 87 2 (.slice (some ⟨g', 0, none⟩) (L.length + 1) cap') (L.length + 1) (cellsU (L.take s ++ z :: L.drop s)) ∧
              Blk w3 wo.heap.size [.int .u32 (kv.1 : Int), .slice xa kv.2.length xcap] 87 ∧ Below w1.heap.size w1 w3) (fun i _ => (intOf i).toNat)
          case atStart =>
            obtain ⟨h1, h2, h3⟩ := Q6.out
            refine ⟨L.length, (0, .slice none 0 0, []), by go_num, posU_le _ _, Nat.le_refl _, ?_, h2, h3⟩
            rw [List.take_of_length_le (Nat.le_refl _), List.drop_of_length_le (Nat.le_refl _), cellsU_append]
            exact h1
          case round =>
            obtain ⟨s, z, rfl, hs1, hs2, hown3, hbox3, hbk3⟩ := hrel
            rename World => w3
            rcases Nat.lt_or_ge (posU kv.1 L) s with hlt | hge
            · exfalso
              omega
            · obtain rfl : s = posU kv.1 L := by omega
              obtain ⟨x0, x1⟩ : w3.cell? ⟨wo.heap.size, 0, none⟩ = some (.int .u32 (kv.1 : Int)) ∧ w3.cell? ⟨wo.heap.size, 1, none⟩ = some (.slice xa kv.2.length xcap) := ⟨hbox3.cell_some rfl, hbox3.cell_some rfl⟩
              obtain ⟨b0, b1⟩ := ownsU_cells (i := posU kv.1 L) (t := z) hown3 shift_len.symm (shift_at (posU_le _ _))
              have f0 := hown3.frozenAt (posU kv.1 L * 2)
              have f1 := hown3.frozenAt (posU kv.1 L * 2 + 1)
              have st1 := hown3.stored (posU kv.1 L * 2) (.int .u32 (kv.1 : Int))
              have st2 := st1.1.stored (posU kv.1 L * 2 + 1) (.slice xa kv.2.length xcap)
              have hlen : (L.take (posU kv.1 L) ++ (kv.1, Value.slice xa kv.2.length xcap, kv.2) :: L.drop (posU kv.1 L)).length = L.length + 1 := shift_len
              have hfin : ∃ (k' : Nat) (L' : List TV), Value.int .i64 ((k : Int) + 1) = .int .i64 (k' : Nat) ∧ k' ≤ m ∧ ((w3.setCell ⟨g', posU kv.1 L * 2, none⟩ (.int .u32 (kv.1 : Int))).setCell ⟨g', posU kv.1 L * 2 + 1, none⟩ (.slice xa kv.2.length xcap)).ownsRow w1.heap.size 87 2 (.slice (some ⟨g', 0, none⟩) (L.length + 1) cap') L'.length (cellsU L') ∧ (L' = [] → Value.slice (some ⟨g', 0, none⟩) (L.length + 1) cap' = .slice none 0 0) ∧
                  bytesU L' = unkTo k' u ∧ TVs B w L' ∧ L'.length ≤ k' ∧ Below w1.heap.size w1 ((w3.setCell ⟨g', posU kv.1 L * 2, none⟩ (.int .u32 (kv.1 : Int))).setCell ⟨g', posU kv.1 L * 2 + 1, none⟩ (.slice xa kv.2.length xcap)) := by
                refine ⟨k + 1, L.take (posU kv.1 L) ++ (kv.1, Value.slice xa kv.2.length xcap, kv.2) :: L.drop (posU kv.1 L), by go_num, by omega, ?_, fun h => by simp at h, ?_, ?_, by omega, (hbk3.setCell (p := ⟨g', posU kv.1 L * 2, none⟩) hg1 _).setCell (p := ⟨g', posU kv.1 L * 2 + 1, none⟩) hg1 _⟩
                · have h := st2.1
                  have e2 := cellsU_set (L.take (posU kv.1 L) ++ z :: L.drop (posU kv.1 L)) (posU kv.1 L) (kv.1, Value.slice xa kv.2.length xcap, kv.2) (by rw [shift_len]; have := posU_le kv.1 L; omega)
                  rw [Nat.mul_comm 2 (posU kv.1 L), shift_fin (posU_le _ _)] at e2
                  rw [e2] at h
                  rw [hlen]
                  exact h
                · rw [unkTo_succ hkv, ← hby, ← bytesU_ins (x := .slice xa kv.2.length xcap), insG_new hnew]
                · rw [← insG_new (v := (Value.slice xa kv.2.length xcap, kv.2)) hnew]
                  intro t ht
                  rcases insG_mem ht with rfl | ht
                  · exact ⟨hkey, HX.out⟩
                  · exact hL t ht
              have FIN := Lib.hid hfin
              clear hfin hown3 hbox3 hbk3 st1 st2 Q6
              go_wp2
              go_roundw
              case rel => exact FIN.out
              case measure => simp [intOf]; omega
    · obtain rfl : k = m := by omega
      obtain ⟨va, vcap, rfl⟩ := ownsRow_shape hown
      have R := Lib.hid (And.intro hown (And.intro hL (And.intro hby hbk)))
      clear hown hL hby hbk
      go_wp2
      go_ret
      obtain ⟨hown, hL, hby, hbk⟩ := R.out
      have hbf := HB1.out.trans (hbk.mono (Nat.le_trans hb z1))
      refine ⟨_, rfl, ?_, hbf⟩
      have e : unk u = bytesU L := by rw [UNK.out, hby]
      rw [e]
      exact ownsU_rep hown (hL.below (hbf.mono hB)) (by have := hbf.size; omega)
end Go.Proofs.Ytkhpglongkhbjaa
