/- Shared texts of these proofs, laid together by merge.py: Ksa, Ksb, Ksc, Ksd, Kse, Ksg, Gw. -/
import Derived.Test.YtmpilpgabelmiaaGreatDoorVg
import Derived.Test.YtmpilpgabelmiaaGreatDoorVj
import Derived.Test.YtmpilpgabelmiaaGreatDoorVh
set_option linter.unusedVariables false
/- The reference with tags: the unknown ones, above the known ones. -/
namespace Go.Proofs.YtmpilpgabelmiaaGreatDoor
open Go Go.RowKit
set_option linter.unusedVariables false

theorem unkN_unkToN (kN : Nat) (l : List (Nat × List UInt8)) : unkN kN l = unkToN kN (min l.length 32767) l := by
  unfold unkN unkToN
  have e : l.take 32767 = l.take (min l.length 32767) := by
    rcases Nat.le_total l.length 32767 with h | h
    · rw [Nat.min_eq_left h, List.take_of_length_le h, List.take_length]
    · rw [Nat.min_eq_right h]
  rw [e]
theorem unkToN_succ {kN : Nat} {l : List (Nat × List UInt8)} {n : Nat} {t : Nat × List UInt8} (h : l[n]? = some t) (hk : kN ≤ t.1) : unkToN kN (n + 1) l = insU t.1 t.2 (unkToN kN n l) := by
  unfold unkToN
  rw [List.take_add_one, h, List.filter_append, List.foldl_append]
  simp [hk]
theorem unkToN_skip {kN : Nat} {l : List (Nat × List UInt8)} {n : Nat} {t : Nat × List UInt8} (h : l[n]? = some t) (hk : t.1 < kN) : unkToN kN (n + 1) l = unkToN kN n l := by
  unfold unkToN
  rw [List.take_add_one, h, List.filter_append, List.foldl_append]
  have : ¬ kN ≤ t.1 := by omega
  simp [this]
set_option maxRecDepth 100000 in
set_option maxHeartbeats 12800000 in
theorem spUnknownN (kN : Nat) (hkN : kN ≤ 1000) (fs : PFs) (fv uv : Value) (u : List (Nat × List UInt8)) (B base : Nat) (w : World) (hB : B ≤ base) (hb : base ≤ w.heap.size) (hf : RepF B w fs fv) (hu : RepU B w u uv) (hK : Says Tryz.prog 49 #[fv] w base (.int .u32 (kN : Nat))) :
    Calls Tryz.prog 52 #[fv, uv] w fun e w' => ∃ v L, e = .returned v ∧ w'.ownsRow w.heap.size 68 2 v L.length (cellsU L) ∧ bytesU L = unkN kN u ∧ TVs B w' L ∧ Below base w w' := by
  obtain ⟨ua, ucap, rfl, hul, huc, hur⟩ := hu
  have K := Lib.hid hK
  clear hK
  obtain ⟨fa, fcap, rfl, -⟩ := hf
  have HU := Lib.hid hur
  clear hur
  obtain ⟨m, hm⟩ : ∃ m, min u.length 32767 = m := ⟨_, rfl⟩
  have hunk : unkN kN u = unkToN kN m u := by rw [← hm]; exact unkN_unkToN kN u
  have hml : m ≤ u.length ∧ m ≤ 32767 := by omega
  have UNK := Lib.hid hunk
  clear hunk
  go_enter Tryz.func52, Tryz.ntmps52
  go_wp2_with fail
  refine K.out.mono ?_
  rintro e w1 ⟨rfl, hb1⟩
  have HB1 := Lib.hid hb1
  have z1 := hb1.size
  clear hb1
  go_wp2_with fail
  simp only [takeCount, hm]
  go_loopw [6, 19] (fun v i wq => ∃ (k : Nat) (L : List TV), i = .int .i64 (k : Nat) ∧ k ≤ m ∧ wq.ownsRow w1.heap.size 68 2 v L.length (cellsU L) ∧ (L = [] → v = .slice none 0 0) ∧ bytesU L = unkToN kN k u ∧ TVs B w L ∧ L.length ≤ k ∧ Below w1.heap.size w1 wq)
    (fun _ i _ => m - (intOf i).toNat)
  case atStart => exact ⟨0, [], rfl, Nat.zero_le _, World.ownsRow_nil _ _ _ 2, fun _ => rfl, rfl, (fun t h => nomatch h), Nat.le_refl _, Below.refl _ _⟩
  case round =>
    obtain ⟨k, L, rfl, hk, hown, hnil, hby, hL, hLk, hbk⟩ := hrel
    rename World => wo
    by_cases hkm : k < m
    · obtain ⟨kv, hkv⟩ : ∃ kv, u[k]? = some kv := ⟨u[k]'(by omega), List.getElem?_eq_getElem (by omega)⟩
      obtain ⟨p, q, rfl, hp, hc⟩ := HU.out (by intro e; subst e; simp at hkv)
      obtain ⟨c0, hkey, x, c1, hx⟩ := hc k kv hkv
      obtain ⟨xa, xcap, rfl, -⟩ := id hx
      rw [Nat.mul_comm 2 k] at c0 c1
      have hpw : p < w1.heap.size := by omega
      have d0 := (hbk.cell (p := ⟨p, q + k * 2, none⟩) hpw).trans ((HB1.out.cell (p := ⟨p, q + k * 2, none⟩) (by show p < base; omega)).trans c0)
      have d1 := (hbk.cell (p := ⟨p, q + k * 2 + 1, none⟩) hpw).trans ((HB1.out.cell (p := ⟨p, q + k * 2 + 1, none⟩) (by show p < base; omega)).trans c1)
      obtain ⟨va, vcap, rfl⟩ := ownsRow_shape hown
      have hvb : (Value.slice va L.length vcap).ownBlock ≠ some wo.heap.size := fun h => Nat.lt_irrefl _ (hown.lt _ h).2
      have zr := hbk.size
      have hkey2 : ((kv.1 : Nat) : Int) ≤ 4294967295 := by omega
      have hsA : (wo.alloc (.cells #[.int .u32 (kv.1 : Int), .slice xa kv.2.length xcap] 68)).heap.size = wo.heap.size + 1 := by simp
      have ZA := Lib.hid (And.intro (hown.alloc (.cells #[.int .u32 (kv.1 : Int), .slice xa kv.2.length xcap] 68)) (And.intro (Blk.alloc_new wo [.int .u32 (kv.1 : Int), .slice xa kv.2.length xcap] 68) (hbk.alloc hbk.size (.cells #[.int .u32 (kv.1 : Int), .slice xa kv.2.length xcap] 68))))
      have hLl : L.length ≤ 32767 := by omega
      have HX := Lib.hid hx
      clear hown hbk hx c0 c1 hc
      go_wp2_with fail
      obtain ⟨wA, hwA⟩ : ∃ wA, wA = wo.alloc (.cells #[.int .u32 (kv.1 : Int), .slice xa kv.2.length xcap] 68) := ⟨_, rfl⟩
      have ZA := Lib.hid ZA.out
      rw [← hwA] at ZA hsA ⊢
      clear hwA d0 d1
      go_loopw [9] (fun i w2 => ∃ j : Nat, i = .int .i64 (j : Nat) ∧ j ≤ posU kv.1 L ∧ Below wA.heap.size wA w2) (fun i _ => L.length - (intOf i).toNat)
      case atStart => exact ⟨0, rfl, Nat.zero_le _, Below.refl _ _⟩
      case round =>
        obtain ⟨j, rfl, hj, hbj⟩ := hrel
        rename World => w2
        have hown2 := ownsRow_stay ZA.out.1 hbj (Nat.le_refl _)
        have hbox2 := ZA.out.2.1.below hbj (by omega)
        have hbk2 : Below w1.heap.size w1 w2 := ZA.out.2.2.trans (hbj.mono (by omega))
        have x0 := hbox2.cell_some (i := 0) rfl
        have x1 := hbox2.cell_some (i := 1) rfl
        by_cases hjl : j < L.length
        · obtain ⟨g, cap, hve, hg1, hg2⟩ := ownsRow_nz hown2 (by omega)
          cases hve
          have hLj : L[j]? = some L[j] := List.getElem?_eq_getElem hjl
          obtain ⟨e0, e1⟩ := ownsU_cells hown2 rfl hLj
          obtain ⟨kj, hkj⟩ : ∃ kj, L[j].1 = kj := ⟨_, rfl⟩
          rw [hkj] at e0
          by_cases hlt : kj < kv.1
          · have FIN := Lib.hid (posU_next kv.1 L j _ hj hLj (by rw [hkj]; exact hlt))
            have FB := Lib.hid hbj.drew
            clear hown2 hbox2 hbk2 hbj e1 hLj
            go_wp2_with fail
            go_region_held3 (fun w' => w'.cell? ⟨g, j * 2, none⟩ = some (.int .u32 (kj : Int)) ∧ w'.cell? ⟨wo.heap.size, 0, none⟩ = some (.int .u32 (kv.1 : Int))) (first | exact ⟨e0, x0⟩) (first | fail)
            go_wp2
            go_roundw
            case rel => exact ⟨j + 1, by go_num, FIN.out, FB.out⟩
            case measure => simp [intOf]; omega
          · have hpos : j = posU kv.1 L := posU_eq kv.1 L j hj (fun t ht => by rw [hLj] at ht; cases ht; omega)
            by_cases hkn : kv.1 < kN
            · have hins : bytesU L = unkToN kN (k + 1) u := by rw [unkToN_skip hkv hkn, hby]
              have Z := Lib.hid (And.intro hown2 (And.intro hbk2 hins))
              have hk1 : ((kv.1 : Nat) : Int) < (kN : Int) := by omega
              have hkd : decide (((kv.1 : Nat) : Int) < (kN : Int)) = true := by simp; omega
              clear hown2 hbox2 hbk2 hbj e1 hLj hins hpos
              go_wp2_with fail
              go_region_held3 (fun w' => w'.cell? ⟨g, j * 2, none⟩ = some (.int .u32 (kj : Int)) ∧ w'.cell? ⟨wo.heap.size, 0, none⟩ = some (.int .u32 (kv.1 : Int))) (first | exact ⟨e0, x0⟩) (first | fail)
              go_wp2_with fail
              go_region
              go_wp2
              go_roundw
              case rel => exact ⟨k + 1, L, by go_num, by omega, Z.out.1, hnil, Z.out.2.2, hL, by omega, Z.out.2.1.drew.drew⟩
              case measure => simp [intOf]; omega
            have hk0 : ¬ ((kv.1 : Nat) : Int) < (kN : Int) := by omega
            have hkd : decide (((kv.1 : Nat) : Int) < (kN : Int)) = false := by simp; omega
            by_cases heq : kj = kv.1
            · have hins : bytesU L = unkToN kN (k + 1) u := by
                rw [unkToN_succ hkv (by omega), ← hby, ← bytesU_ins (x := .slice xa kv.2.length xcap), insG_there (t := L[j]) (by rw [← hpos]; exact hLj) (by rw [hkj]; exact heq)]
              have Z := Lib.hid (And.intro hown2 (And.intro hbk2 hins))
              subst heq
              clear hown2 hbox2 hbk2 hbj e1 hLj hins hpos
              go_wp2_with fail
              go_region_held3 (fun w' => w'.cell? ⟨g, j * 2, none⟩ = some (.int .u32 (kv.1 : Int)) ∧ w'.cell? ⟨wo.heap.size, 0, none⟩ = some (.int .u32 (kv.1 : Int))) (first | exact ⟨e0, x0⟩) (first | fail)
              go_wp2_with fail
              go_region_held3 (fun w' => w'.cell? ⟨g, j * 2, none⟩ = some (.int .u32 (kv.1 : Int)) ∧ w'.cell? ⟨wo.heap.size, 0, none⟩ = some (.int .u32 (kv.1 : Int))) (first | exact ⟨e0, x0⟩) (first | fail)
              go_wp2
              go_roundw
              case rel => exact ⟨k + 1, L, by go_num, by omega, Z.out.1, hnil, Z.out.2.2, hL, by omega, Z.out.2.1.drew.drew⟩
              case measure => simp [intOf]; omega
            · have hnew : ∀ t, L[posU kv.1 L]? = some t → t.1 ≠ kv.1 := fun t ht => by rw [← hpos, hLj] at ht; cases ht; omega
              have Z := Lib.hid (show w2.drew.drew.ownsRow w1.heap.size 68 2 (.slice (some ⟨g, 0, none⟩) L.length vcap) L.length (cellsU L) ∧ Blk w2.drew.drew wo.heap.size [.int .u32 (kv.1 : Int), .slice xa kv.2.length xcap] 68 ∧ Below w1.heap.size w1 w2.drew.drew from ⟨hown2, hbox2, hbk2.drew.drew⟩)
              subst hpos
              clear hown2 hbox2 hbk2 hbj e1 hLj
              go_wp2_with fail
              go_region_held3 (fun w' => w'.cell? ⟨g, posU kv.1 L * 2, none⟩ = some (.int .u32 (kj : Int)) ∧ w'.cell? ⟨wo.heap.size, 0, none⟩ = some (.int .u32 (kv.1 : Int))) (first | exact ⟨e0, x0⟩) (first | fail)
              go_wp2_with fail
              go_region_held3 (fun w' => w'.cell? ⟨g, posU kv.1 L * 2, none⟩ = some (.int .u32 (kj : Int)) ∧ w'.cell? ⟨wo.heap.size, 0, none⟩ = some (.int .u32 (kv.1 : Int))) (first | exact ⟨e0, x0⟩) (first | fail)
              clear e0
              have hzz : w2.drew.drew.heap.size = w2.heap.size := rfl
              generalize w2.drew.drew = wz at *
              go_wp2_with (at_builtin; refine halted ?_)
              try (case roundEnd =>
                exfalso
                rename_i hbad
                first
                  | omega
                  | (rcases hbad with h | h
                     · omega
                     · have := eq_of_beq h
                       omega))
              obtain ⟨hown2, hbox2, hbk2⟩ := Z.out
              obtain ⟨base2, hz1, hz2, hown2', hap⟩ := boxApart (b := wo.heap.size) (c0 := .int .u32 (kv.1 : Int)) (c1 := .slice xa kv.2.length xcap) hown2 hnil (by omega)
              have hs2 := hbox2.lt
              obtain ⟨i0, hi, hz, hs, hby⟩ := info_parts tagInfo
              have c5 := Blk.alloc_new wz [.int .u32 0, .slice none 0 0] 68
              have hzz' := hzz
              refine wpl_append_src (by rfl) (.tmp 59) (.tmp 61) 24 24 (by rfl) base2 68 i0 _ 2 32 Tryz.underlying24 hi hz hs hby (by rfl) (.slice (some ⟨g, 0, none⟩) L.length vcap) L.length (cellsU L) (by rfl) (hown2'.alloc _) (.slice (some ⟨w2.heap.size, 0, none⟩) 1 1) 1 [.int .u32 0, .slice none 0 0] (by rfl)
                (Src.ofSlice _ Tryz.underlying24 _ 1 1 _ rfl ?_ ?_) (by unfold maxLen; omega) (by omega) (by simp; omega) ?_
              · intro i u hu
                rw [Addr.add_lit, ← hzz]
                exact c5.cell_some (by simpa using hu)
              · intro u hu
                simp only [List.mem_cons, List.not_mem_nil, or_false] at hu
                rcases hu with rfl | rfl <;> rfl
              intro v' w6 hown6 hg6 _
              have hb6 : Below w1.heap.size wz w6 := ((Below.refl w1.heap.size wz).alloc (by have := hbk2.size; omega) _).grown hg6 (by simp; have := hbk2.size; omega) (fun k hk => (hown2.lt k hk).1)
              have hbox6 : Blk w6 wo.heap.size [.int .u32 (kv.1 : Int), .slice xa kv.2.length xcap] 68 := by
                refine (hg6.block _ ?_ ?_).trans (hbox2.alloc _)
                · simp; omega
                · intro e
                  exact hvb e.symm
              have hne := hap w6 v' _ hown6 hbox6
              have hown6 := ownsRow_mono hown6 hz1
              obtain ⟨g', cap', rfl, hg1, hg2⟩ := ownsRow_nz hown6 (by omega)
              have hne : g' ≠ wo.heap.size := fun e => hne (by simp [Value.ownBlock, e])
              have hbk6 : Below w1.heap.size w1 w6 := hbk2.trans hb6
              have Q6 := Lib.hid (And.intro hown6 (And.intro hbox6 hbk6))
              clear hown6 hbox6 hbk6 hb6 hg6 hap hown2 hown2' hbox2 hbk2 hi hz hs hby c5 Z
              go_wp2_with fail
              go_loopw [10] (fun i w3 => ∃ (s : Nat) (z : TV), i = .int .i64 (s : Nat) ∧ posU kv.1 L ≤ s ∧ s ≤ L.length ∧ w3.ownsRow w1.heap.size 68 2 (.slice (some ⟨g', 0, none⟩) (L.length + 1) cap') (L.length + 1) (cellsU (L.take s ++ z :: L.drop s)) ∧
                  Blk w3 wo.heap.size [.int .u32 (kv.1 : Int), .slice xa kv.2.length xcap] 68 ∧ Below w1.heap.size w1 w3) (fun i _ => (intOf i).toNat)
              case atStart =>
                obtain ⟨h1, h2, h3⟩ := Q6.out
                refine ⟨L.length, (0, .slice none 0 0, []), by go_num, posU_le _ _, Nat.le_refl _, ?_, h2, h3⟩
                rw [List.take_of_length_le (Nat.le_refl _), List.drop_of_length_le (Nat.le_refl _), cellsU_append]
                exact h1
              case round =>
                obtain ⟨s, z, rfl, hs1, hs2, hown3, hbox3, hbk3⟩ := hrel
                rename World => w3
                rcases Nat.lt_or_ge (posU kv.1 L) s with hlt | hge
                · obtain ⟨s', rfl⟩ : ∃ s', s = s' + 1 := ⟨s - 1, by omega⟩
                  have hsl : s' < L.length := by omega
                  obtain ⟨a0, a1⟩ := ownsU_cells hown3 shift_len.symm (shift_get hsl)
                  obtain ⟨b0, b1⟩ := ownsU_cells (i := s' + 1) (t := z) hown3 shift_len.symm (shift_at (by omega))
                  have f0 := hown3.frozenAt ((s' + 1) * 2)
                  have f1 := hown3.frozenAt ((s' + 1) * 2 + 1)
                  obtain ⟨la, lcap, hle, -⟩ := (hL _ (List.getElem_mem hsl)).2
                  rw [hle] at a1
                  have hsle : ((L[s'].1 : Nat) : Int) = (L[s'].1 : Int) := rfl
                  have e1 : (((s' + 1 : Nat) : Int)) = (s' : Int) + 1 := by omega
                  have st1 := hown3.stored ((s' + 1) * 2) (.int .u32 (L[s'].1 : Int))
                  have st2 := st1.1.stored ((s' + 1) * 2 + 1) (.slice la (L[s'].2.2).length lcap)
                  have hfin : ∃ (s : Nat) (z : TV), Value.int .i64 (s' : Int) = .int .i64 (s : Nat) ∧ posU kv.1 L ≤ s ∧ s ≤ L.length ∧ ((w3.setCell ⟨g', (s' + 1) * 2, none⟩ (.int .u32 (L[s'].1 : Int))).setCell ⟨g', (s' + 1) * 2 + 1, none⟩ (.slice la (L[s'].2.2).length lcap)).ownsRow w1.heap.size 68 2 (.slice (some ⟨g', 0, none⟩) (L.length + 1) cap') (L.length + 1) (cellsU (L.take s ++ z :: L.drop s)) ∧
                      Blk ((w3.setCell ⟨g', (s' + 1) * 2, none⟩ (.int .u32 (L[s'].1 : Int))).setCell ⟨g', (s' + 1) * 2 + 1, none⟩ (.slice la (L[s'].2.2).length lcap)) wo.heap.size [.int .u32 (kv.1 : Int), .slice xa kv.2.length xcap] 68 ∧ Below w1.heap.size w1 ((w3.setCell ⟨g', (s' + 1) * 2, none⟩ (.int .u32 (L[s'].1 : Int))).setCell ⟨g', (s' + 1) * 2 + 1, none⟩ (.slice la (L[s'].2.2).length lcap)) := by
                    refine ⟨s', L[s'], rfl, by omega, by omega, ?_, (hbox3.set_other (fun e => hne e.symm) _ _).set_other (fun e => hne e.symm) _ _, (hbk3.setCell (p := ⟨g', (s' + 1) * 2, none⟩) hg1 _).setCell (p := ⟨g', (s' + 1) * 2 + 1, none⟩) hg1 _⟩
                    have h := st2.1
                    have e2 := cellsU_set (L.take (s' + 1) ++ z :: L.drop (s' + 1)) (s' + 1) L[s'] (by rw [shift_len]; omega)
                    rw [hle, Nat.mul_comm 2 (s' + 1), shift_set hsl] at e2
                    rw [e2] at h
                    exact h
                  have FIN := Lib.hid hfin
                  clear hfin hown3 hbox3 hbk3 st1 st2 hle Q6
                  rw [e1] at *
                  go_wp2
                  go_roundw
                  case rel => exact FIN.out
                  case measure => simp [intOf]
                · obtain rfl : s = posU kv.1 L := by omega
                  obtain ⟨x0, x1⟩ : w3.cell? ⟨wo.heap.size, 0, none⟩ = some (.int .u32 (kv.1 : Int)) ∧ w3.cell? ⟨wo.heap.size, 1, none⟩ = some (.slice xa kv.2.length xcap) := ⟨hbox3.cell_some rfl, hbox3.cell_some rfl⟩
                  obtain ⟨b0, b1⟩ := ownsU_cells (i := posU kv.1 L) (t := z) hown3 shift_len.symm (shift_at (posU_le _ _))
                  have f0 := hown3.frozenAt (posU kv.1 L * 2)
                  have f1 := hown3.frozenAt (posU kv.1 L * 2 + 1)
                  have st1 := hown3.stored (posU kv.1 L * 2) (.int .u32 (kv.1 : Int))
                  have st2 := st1.1.stored (posU kv.1 L * 2 + 1) (.slice xa kv.2.length xcap)
                  have hlen : (L.take (posU kv.1 L) ++ (kv.1, Value.slice xa kv.2.length xcap, kv.2) :: L.drop (posU kv.1 L)).length = L.length + 1 := shift_len
                  have hfin : ∃ (k' : Nat) (L' : List TV), Value.int .i64 ((k : Int) + 1) = .int .i64 (k' : Nat) ∧ k' ≤ m ∧ ((w3.setCell ⟨g', posU kv.1 L * 2, none⟩ (.int .u32 (kv.1 : Int))).setCell ⟨g', posU kv.1 L * 2 + 1, none⟩ (.slice xa kv.2.length xcap)).ownsRow w1.heap.size 68 2 (.slice (some ⟨g', 0, none⟩) (L.length + 1) cap') L'.length (cellsU L') ∧ (L' = [] → Value.slice (some ⟨g', 0, none⟩) (L.length + 1) cap' = .slice none 0 0) ∧
                      bytesU L' = unkToN kN k' u ∧ TVs B w L' ∧ L'.length ≤ k' ∧ Below w1.heap.size w1 ((w3.setCell ⟨g', posU kv.1 L * 2, none⟩ (.int .u32 (kv.1 : Int))).setCell ⟨g', posU kv.1 L * 2 + 1, none⟩ (.slice xa kv.2.length xcap)) := by
                    refine ⟨k + 1, L.take (posU kv.1 L) ++ (kv.1, Value.slice xa kv.2.length xcap, kv.2) :: L.drop (posU kv.1 L), by go_num, by omega, ?_, fun h => by simp at h, ?_, ?_, by omega, (hbk3.setCell (p := ⟨g', posU kv.1 L * 2, none⟩) hg1 _).setCell (p := ⟨g', posU kv.1 L * 2 + 1, none⟩) hg1 _⟩
                    · have h := st2.1
                      have e2 := cellsU_set (L.take (posU kv.1 L) ++ z :: L.drop (posU kv.1 L)) (posU kv.1 L) (kv.1, Value.slice xa kv.2.length xcap, kv.2) (by rw [shift_len]; have := posU_le kv.1 L; omega)
                      rw [Nat.mul_comm 2 (posU kv.1 L), shift_fin (posU_le _ _)] at e2
                      rw [e2] at h
                      rw [hlen]
                      exact h
                    · rw [unkToN_succ hkv (by omega), ← hby, ← bytesU_ins (x := .slice xa kv.2.length xcap), insG_new hnew]
                    · rw [← insG_new (v := (Value.slice xa kv.2.length xcap, kv.2)) hnew]
                      intro t ht
                      rcases insG_mem ht with rfl | ht
                      · exact ⟨hkey, HX.out⟩
                      · exact hL t ht
                  have FIN := Lib.hid hfin
                  clear hfin hown3 hbox3 hbk3 st1 st2 Q6
                  go_wp2
                  go_roundw
                  case rel => exact FIN.out
                  case measure => simp [intOf]; omega
        · have hpos : j = posU kv.1 L := posU_eq kv.1 L j hj (fun t ht => by rw [List.getElem?_eq_none (by omega)] at ht; cases ht)
          by_cases hkn : kv.1 < kN
          · have hins : bytesU L = unkToN kN (k + 1) u := by rw [unkToN_skip hkv hkn, hby]
            have Z := Lib.hid (And.intro hown2 (And.intro hbk2 hins))
            have hk1 : ((kv.1 : Nat) : Int) < (kN : Int) := by omega
            clear hown2 hbox2 hbk2 hbj hins hpos
            go_wp2_with fail
            go_region
            have hkd : decide (((kv.1 : Nat) : Int) < (kN : Int)) = true := by simp; omega
            go_wp2_with fail
            go_region
            go_wp2
            go_roundw
            case rel => exact ⟨k + 1, L, by go_num, by omega, Z.out.1, hnil, Z.out.2.2, hL, by omega, Z.out.2.1.drew.drew⟩
            case measure => simp [intOf]; omega
          have hk0 : ¬ ((kv.1 : Nat) : Int) < (kN : Int) := by omega
          have hnew : ∀ t, L[posU kv.1 L]? = some t → t.1 ≠ kv.1 := fun t ht => by rw [← hpos, List.getElem?_eq_none (by omega)] at ht; cases ht
          have Z := Lib.hid (show w2.drew.drew.ownsRow w1.heap.size 68 2 (.slice va L.length vcap) L.length (cellsU L) ∧ Blk w2.drew.drew wo.heap.size [.int .u32 (kv.1 : Int), .slice xa kv.2.length xcap] 68 ∧ Below w1.heap.size w1 w2.drew.drew from ⟨hown2, hbox2, hbk2.drew.drew⟩)
          subst hpos
          clear hown2 hbox2 hbk2 hbj
          go_wp2_with fail
          go_region
          have hkd : decide (((kv.1 : Nat) : Int) < (kN : Int)) = false := by simp; omega
          go_wp2_with fail
          go_region
          have hzz : w2.drew.drew.heap.size = w2.heap.size := rfl
          generalize w2.drew.drew = wz at *
          go_wp2_with (at_builtin; refine halted ?_)
          obtain ⟨hown2, hbox2, hbk2⟩ := Z.out
          obtain ⟨base2, hz1, hz2, hown2', hap⟩ := boxApart (b := wo.heap.size) (c0 := .int .u32 (kv.1 : Int)) (c1 := .slice xa kv.2.length xcap) hown2 hnil (by omega)
          have hs2 := hbox2.lt
          obtain ⟨i0, hi, hz, hs, hby⟩ := info_parts tagInfo
          have c5 := Blk.alloc_new wz [.int .u32 0, .slice none 0 0] 68
          have hzz' := hzz
          refine wpl_append_src (by rfl) (.tmp 59) (.tmp 61) 24 24 (by rfl) base2 68 i0 _ 2 32 Tryz.underlying24 hi hz hs hby (by rfl) (.slice va L.length vcap) L.length (cellsU L) (by rfl) (hown2'.alloc _) (.slice (some ⟨w2.heap.size, 0, none⟩) 1 1) 1 [.int .u32 0, .slice none 0 0] (by rfl)
            (Src.ofSlice _ Tryz.underlying24 _ 1 1 _ rfl ?_ ?_) (by unfold maxLen; omega) (by omega) (by simp; omega) ?_
          · intro i u hu
            rw [Addr.add_lit, ← hzz]
            exact c5.cell_some (by simpa using hu)
          · intro u hu
            simp only [List.mem_cons, List.not_mem_nil, or_false] at hu
            rcases hu with rfl | rfl <;> rfl
          intro v' w6 hown6 hg6 _
          have hb6 : Below w1.heap.size wz w6 := ((Below.refl w1.heap.size wz).alloc (by have := hbk2.size; omega) _).grown hg6 (by simp; have := hbk2.size; omega) (fun k hk => (hown2.lt k hk).1)
          have hbox6 : Blk w6 wo.heap.size [.int .u32 (kv.1 : Int), .slice xa kv.2.length xcap] 68 := by
            refine (hg6.block _ ?_ ?_).trans (hbox2.alloc _)
            · simp; omega
            · intro e
              exact hvb e.symm
          have hne := hap w6 v' _ hown6 hbox6
          have hown6 := ownsRow_mono hown6 hz1
          obtain ⟨g', cap', rfl, hg1, hg2⟩ := ownsRow_nz hown6 (by omega)
          have hne : g' ≠ wo.heap.size := fun e => hne (by simp [Value.ownBlock, e])
          have hbk6 : Below w1.heap.size w1 w6 := hbk2.trans hb6
          have Q6 := Lib.hid (And.intro hown6 (And.intro hbox6 hbk6))
          clear hown6 hbox6 hbk6 hb6 hg6 hap hown2 hown2' hbox2 hbk2 hi hz hs hby c5 Z
          go_wp2_with fail
          go_loopw [10] (fun i w3 => ∃ (s : Nat) (z : TV), i = .int .i64 (s : Nat) ∧ posU kv.1 L ≤ s ∧ s ≤ L.length ∧ w3.ownsRow w1.heap.size 68 2 (.slice (some ⟨g', 0, none⟩) (L.length + 1) cap') (L.length + 1) (cellsU (L.take s ++ z :: L.drop s)) ∧
              Blk w3 wo.heap.size [.int .u32 (kv.1 : Int), .slice xa kv.2.length xcap] 68 ∧ Below w1.heap.size w1 w3) (fun i _ => (intOf i).toNat)
          case atStart =>
            obtain ⟨h1, h2, h3⟩ := Q6.out
            refine ⟨L.length, (0, .slice none 0 0, []), by go_num, posU_le _ _, Nat.le_refl _, ?_, h2, h3⟩
            rw [List.take_of_length_le (Nat.le_refl _), List.drop_of_length_le (Nat.le_refl _), cellsU_append]
            exact h1
          case round =>
            obtain ⟨s, z, rfl, hs1, hs2, hown3, hbox3, hbk3⟩ := hrel
            rename World => w3
            rcases Nat.lt_or_ge (posU kv.1 L) s with hlt | hge
            · exfalso
              omega
            · obtain rfl : s = posU kv.1 L := by omega
              obtain ⟨x0, x1⟩ : w3.cell? ⟨wo.heap.size, 0, none⟩ = some (.int .u32 (kv.1 : Int)) ∧ w3.cell? ⟨wo.heap.size, 1, none⟩ = some (.slice xa kv.2.length xcap) := ⟨hbox3.cell_some rfl, hbox3.cell_some rfl⟩
              obtain ⟨b0, b1⟩ := ownsU_cells (i := posU kv.1 L) (t := z) hown3 shift_len.symm (shift_at (posU_le _ _))
              have f0 := hown3.frozenAt (posU kv.1 L * 2)
              have f1 := hown3.frozenAt (posU kv.1 L * 2 + 1)
              have st1 := hown3.stored (posU kv.1 L * 2) (.int .u32 (kv.1 : Int))
              have st2 := st1.1.stored (posU kv.1 L * 2 + 1) (.slice xa kv.2.length xcap)
              have hlen : (L.take (posU kv.1 L) ++ (kv.1, Value.slice xa kv.2.length xcap, kv.2) :: L.drop (posU kv.1 L)).length = L.length + 1 := shift_len
              have hfin : ∃ (k' : Nat) (L' : List TV), Value.int .i64 ((k : Int) + 1) = .int .i64 (k' : Nat) ∧ k' ≤ m ∧ ((w3.setCell ⟨g', posU kv.1 L * 2, none⟩ (.int .u32 (kv.1 : Int))).setCell ⟨g', posU kv.1 L * 2 + 1, none⟩ (.slice xa kv.2.length xcap)).ownsRow w1.heap.size 68 2 (.slice (some ⟨g', 0, none⟩) (L.length + 1) cap') L'.length (cellsU L') ∧ (L' = [] → Value.slice (some ⟨g', 0, none⟩) (L.length + 1) cap' = .slice none 0 0) ∧
                  bytesU L' = unkToN kN k' u ∧ TVs B w L' ∧ L'.length ≤ k' ∧ Below w1.heap.size w1 ((w3.setCell ⟨g', posU kv.1 L * 2, none⟩ (.int .u32 (kv.1 : Int))).setCell ⟨g', posU kv.1 L * 2 + 1, none⟩ (.slice xa kv.2.length xcap)) := by
                refine ⟨k + 1, L.take (posU kv.1 L) ++ (kv.1, Value.slice xa kv.2.length xcap, kv.2) :: L.drop (posU kv.1 L), by go_num, by omega, ?_, fun h => by simp at h, ?_, ?_, by omega, (hbk3.setCell (p := ⟨g', posU kv.1 L * 2, none⟩) hg1 _).setCell (p := ⟨g', posU kv.1 L * 2 + 1, none⟩) hg1 _⟩
                · have h := st2.1
                  have e2 := cellsU_set (L.take (posU kv.1 L) ++ z :: L.drop (posU kv.1 L)) (posU kv.1 L) (kv.1, Value.slice xa kv.2.length xcap, kv.2) (by rw [shift_len]; have := posU_le kv.1 L; omega)
                  rw [Nat.mul_comm 2 (posU kv.1 L), shift_fin (posU_le _ _)] at e2
                  rw [e2] at h
                  rw [hlen]
                  exact h
                · rw [unkToN_succ hkv (by omega), ← hby, ← bytesU_ins (x := .slice xa kv.2.length xcap), insG_new hnew]
                · rw [← insG_new (v := (Value.slice xa kv.2.length xcap, kv.2)) hnew]
                  intro t ht
                  rcases insG_mem ht with rfl | ht
                  · exact ⟨hkey, HX.out⟩
                  · exact hL t ht
              have FIN := Lib.hid hfin
              clear hfin hown3 hbox3 hbk3 st1 st2 Q6
              go_wp2
              go_roundw
              case rel => exact FIN.out
              case measure => simp [intOf]; omega
    · obtain rfl : k = m := by omega
      obtain ⟨va, vcap, rfl⟩ := ownsRow_shape hown
      have R := Lib.hid (And.intro hown (And.intro hL (And.intro hby hbk)))
      clear hown hL hby hbk
      go_wp2
      go_ret
      obtain ⟨hown, hL, hby, hbk⟩ := R.out
      have hbf := HB1.out.trans (hbk.mono (Nat.le_trans hb z1))
      exact ⟨_, L, rfl, ownsRow_mono hown z1, by rw [UNK.out, hby], hL.below (hbf.mono hB), hbf⟩
end Go.Proofs.YtmpilpgabelmiaaGreatDoor

/- The reference with tags: how many are known; is a field as it is by default? -/
namespace Go.Proofs.YtmpilpgabelmiaaGreatDoor
open Go Go.RowKit
set_option linter.unusedVariables false

/-- Tags of a message's own fields: -1, or small numbers; what is below has none. -/
def PFs.tagOK : PFs → Prop
  | .nil => True
  | .cons _ _ _ _ tg _ _ sub rest => (tg = -1 ∨ ∃ g : Nat, tg = (g : Int) ∧ g ≤ 900) ∧ sub.noTag ∧ rest.tagOK
theorem PFs.known_le : ∀ {fs : PFs}, fs.tagOK → fs.known ≤ 901
  | .nil, _ => Nat.zero_le _
  | .cons _ _ _ _ tg _ _ _ rest, h => by
    have := PFs.known_le h.2.2
    simp only [PFs.known]
    rcases h.1 with rfl | ⟨g, rfl, hg⟩
    · simp; omega
    · split <;> omega
structure LeftT (B : Nat) (w : World) (a : Option Addr) (n : Nat) (k : Nat) (gs : PFs) : Prop where
  len : k + gs.len = n
  tags : gs.tagOK
  cells : ∀ p q, a = some ⟨p, q, none⟩ → RepFC B w gs p (q + k * 8)
theorem LeftT.below {B : Nat} {w w' : World} {a : Option Addr} {n k : Nat} {gs : PFs} (h : LeftT B w a n k gs) (hk : Below B w w') (hp : ∀ p q, a = some ⟨p, q, none⟩ → p < B) : LeftT B w' a n k gs :=
  ⟨h.len, h.tags, fun p q ha => (h.cells p q ha).below hk (hp p q ha)⟩
theorem LeftT.next {B : Nat} {w : World} {a : Option Addr} {n k : Nat} {kk fr to nu tg df ok : Int} {sub rest : PFs} (h : LeftT B w a n k (.cons kk fr to nu tg df ok sub rest)) : LeftT B w a n (k + 1) rest :=
  ⟨by have := h.len; simp only [PFs.len] at this; omega, h.tags.2.2, fun p q ha => by
    have := (h.cells p q ha).2.2
    rwa [show q + (k + 1) * 8 = q + k * 8 + 8 by omega]⟩
theorem LeftT.start {B : Nat} {w : World} {fs : PFs} {a : Option Addr} {n cap : Nat} (h : RepF B w fs (.slice a n cap)) (ht : fs.tagOK) :
    fs.len ≤ 9223372036854775807 ∧ (fs.len ≠ 0 → ∃ p q, a = some ⟨p, q, none⟩ ∧ p < B) ∧ LeftT B w a fs.len 0 fs := by
  obtain ⟨a', cap', hv, hle, hr⟩ := h
  cases hv
  refine ⟨hle, fun hn => ?_, by omega, ht, fun p q ha => ?_⟩
  · obtain ⟨p, q, ha, hp, -⟩ := hr hn
    exact ⟨p, q, ha, hp⟩
  · rw [Nat.zero_mul, Nat.add_zero]
    by_cases hn : fs.len = 0
    · cases fs with
      | nil => trivial
      | cons _ _ _ _ _ _ _ _ _ => simp [PFs.len] at hn
    · obtain ⟨p', q', ha', -, hr⟩ := hr hn
      rw [ha] at ha'
      cases ha'
      exact hr

set_option maxRecDepth 100000 in
set_option maxHeartbeats 1600000 in
theorem spKnownN (fs : PFs) (ht : fs.tagOK) (fv : Value) (B base : Nat) (w : World) (hB : B ≤ base) (hb : base ≤ w.heap.size) (hf : RepF B w fs fv) :
    Says Tryz.prog 49 #[fv] w base (.int .u32 (fs.known : Nat)) := by
  obtain ⟨a, cap, rfl, -⟩ := id hf
  obtain ⟨hmax, ha, L0⟩ := LeftT.start hf ht
  clear hf
  by_cases hn : fs.len = 0
  · have e : fs.known = 0 := by
      cases fs with
      | nil => rfl
      | cons _ _ _ _ _ _ _ _ _ => simp [PFs.len] at hn
    rw [hn, e]
    clear ha L0 e ht hmax
    go_enter Tryz.func49, Tryz.ntmps49
    go_wp2_with fail
    refine wp_loop_rounds 1 ?_
    rw [rounds_succ]
    go_wp2
    go_ret
    exact ⟨rfl, Below.refl _ _⟩
  · obtain ⟨p, q, rfl, hp⟩ := ha hn
    clear ha
    obtain ⟨n, hnn⟩ : ∃ n, fs.len = n := ⟨_, rfl⟩
    obtain ⟨kn', hkn'⟩ : ∃ n, fs.known = n := ⟨_, rfl⟩
    rw [hnn] at L0 hmax ⊢
    rw [hkn']
    go_enter Tryz.func49, Tryz.ntmps49
    go_wp2_with fail
    go_loopw [3, 8] (fun v i wr => ∃ k gs, ∃ x : Nat, i = .int .i64 (k : Nat) ∧ v = .int .u32 (x : Nat) ∧ max x gs.known = kn' ∧ x ≤ 901 ∧ LeftT B w (some ⟨p, q, none⟩) n k gs ∧ Below base w wr)
      (fun _ i _ => n - (intOf i).toNat)
    case atStart => exact ⟨0, fs, 0, rfl, rfl, by rw [hkn']; omega, by omega, L0, Below.refl _ _⟩
    case round =>
      obtain ⟨k, gs, x, rfl, rfl, hx, hx2, L, hbk⟩ := hrel
      have hlen := L.len
      have htag := L.tags
      have hc := (L.cells p q rfl).below (hbk.mono hB) hp
      cases gs with
      | nil =>
        simp only [PFs.len, Nat.add_zero] at hlen
        simp only [PFs.known, Nat.max_zero] at hx
        subst hlen
        subst hx
        clear L htag hc
        go_wp2
        go_ret
        exact ⟨rfl, hbk⟩
      | cons kk fr to nu tg df ok sub rest =>
        obtain ⟨⟨h1, h2, h3, h4, h5, h6, h7⟩, ⟨v, h8, a8, cap8, rfl, -⟩, hrest⟩ := hc
        obtain ⟨htg, htags, htagr⟩ := htag
        simp only [PFs.len] at hlen
        have hkn : k < n := by omega
        have hpw : p < wr.heap.size := by have := hbk.size; omega
        have LN := Lib.hid (L.next)
        simp only [PFs.known] at hx
        clear L htags htagr hrest
        rcases htg with rfl | ⟨g, rfl, hg⟩
        · have HX := Lib.hid (show max x rest.known = kn' by simpa using hx)
          clear hx
          go_wp2
          go_roundw
          case rel => exact ⟨k + 1, rest, x, by go_num, rfl, HX.out, hx2, LN.out, hbk.alloc (Nat.le_trans hb hbk.size) _⟩
          case measure => simp [intOf]; omega
        · have HX := Lib.hid (show max (max x (g + 1)) rest.known = kn' by rw [if_pos (by omega), Int.toNat_natCast] at hx; omega)
          have hg0 : (0 : Int) ≤ (g : Int) := by omega
          have hg1 : ((g : Nat) : Int) ≤ 900 := by omega
          clear hx
          go_wp2
          go_roundw
          case rel => exact ⟨k + 1, rest, max x (g + 1), by go_num, by congr 1; omega, HX.out, by omega, LN.out, hbk.alloc (Nat.le_trans hb hbk.size) _⟩
          case measure => simp [intOf]; omega

set_option maxRecDepth 100000 in
set_option maxHeartbeats 3200000 in
theorem spSameG (xs ys : List UInt8) (x y : Value) (B base : Nat) (w : World) (hb : base ≤ w.heap.size) (hx : RL B w x xs) (hy : RL B w y ys) (hBw : B ≤ base) : Says Tryz.prog 9 #[x, y] w base (.bool (decide (xs = ys))) := by
  obtain ⟨a, cap, rfl, h1, h2, h3⟩ := hx
  obtain ⟨a', cap', rfl, h1', h2', h3'⟩ := hy
  by_cases hlen : xs.length = ys.length
  · by_cases hne : xs = []
    · subst hne
      obtain rfl : ys = [] := List.eq_nil_of_length_eq_zero hlen.symm
      clear h3 h3'
      go_enter Tryz.func9, Tryz.ntmps9
      go_wp2_with fail
      refine wp_loop_rounds 1 ?_
      rw [rounds_succ]
      go_wp2
      go_ret
      exact ⟨by simp, Below.refl _ _⟩
    have hne' : ys ≠ [] := fun e => hne (List.eq_nil_of_length_eq_zero (by rw [hlen, e]; rfl))
    obtain ⟨p, q, rfl, hp, hc⟩ := h3 hne
    obtain ⟨p', q', rfl, hp', hc'⟩ := h3' hne'
    have H := Lib.hid (And.intro hc hc')
    clear hc hc' h3 h3' hne hne'
    obtain ⟨n, hn⟩ : ∃ n, xs.length = n := ⟨_, rfl⟩
    have hn' : ys.length = n := by rw [← hlen, hn]
    rw [hn] at h1 ⊢
    rw [hn'] at h1' ⊢
    clear hlen
    obtain ⟨D, hD⟩ : ∃ D, D = decide (xs = ys) := ⟨_, rfl⟩
    rw [← hD]
    have HN := Lib.hid (And.intro hn hn')
    clear hn hn'
    go_enter Tryz.func9, Tryz.ntmps9
    go_wp2_with fail
    go_loopw [13] (fun i wr => ∃ k : Nat, k ≤ n ∧ i = .int .i64 k ∧ (∀ j, j < k → xs[j]? = ys[j]?) ∧ Below base w wr) (fun i _ => n - (intOf i).toNat)
    case atStart => exact ⟨0, Nat.zero_le _, rfl, (fun j hj => absurd hj (by omega)), Below.refl _ _⟩
    case round =>
      obtain ⟨k, hk, rfl, hpre, hbk⟩ := hrel
      by_cases hkn : k < n
      · obtain ⟨u, hu⟩ : ∃ u, xs[k]? = some u := ⟨xs[k]'(by have := HN.out.1; omega), List.getElem?_eq_getElem (by have := HN.out.1; omega)⟩
        obtain ⟨v, hv⟩ : ∃ v, ys[k]? = some v := ⟨ys[k]'(by have := HN.out.2; omega), List.getElem?_eq_getElem (by have := HN.out.2; omega)⟩
        have c1 := (hbk.cell (p := ⟨p, q + k, none⟩) (by show p < base; omega)).trans (H.out.1 k u hu)
        have c2 := (hbk.cell (p := ⟨p', q' + k, none⟩) (by show p' < base; omega)).trans (H.out.2 k v hv)
        by_cases huv : u = v
        · subst huv
          have FIN := Lib.hid (And.intro hbk.drew (show ∀ j, j < k + 1 → xs[j]? = ys[j]? from fun j hj => by
            by_cases h : j = k
            · subst h; rw [hu, hv]
            · exact hpre j (by omega)))
          clear hbk hu hv hpre hD
          unfold byteV at c1 c2
          generalize (u.toNat : Int) = z at *
          go_wp2_with fail
          go_region_held3 (fun w' => w'.cell? ⟨p, q + k, none⟩ = some (.int .u8 z) ∧ w'.cell? ⟨p', q' + k, none⟩ = some (.int .u8 z)) (first | exact ⟨c1, c2⟩) (first | fail)
          go_wp2
          go_roundw
          case rel => exact ⟨k + 1, by omega, by go_num, FIN.out.2, FIN.out.1⟩
          case measure => simp [intOf]; omega
        · have hDf : D = false := by
            rw [hD]
            simp only [decide_eq_false_iff_not]
            intro e
            rw [e, hv] at hu
            cases hu
            exact huv rfl
          have FIN := Lib.hid (And.intro hbk.drew hDf)
          clear hbk hu hv hpre hD hDf
          have hzz : (u.toNat : Int) ≠ (v.toNat : Int) := fun e => huv (UInt8.toNat_inj.1 (by omega))
          clear huv
          unfold byteV at c1 c2
          generalize (u.toNat : Int) = z at *
          generalize (v.toNat : Int) = z' at *
          go_wp2_with fail
          go_region_held3 (fun w' => w'.cell? ⟨p, q + k, none⟩ = some (.int .u8 z) ∧ w'.cell? ⟨p', q' + k, none⟩ = some (.int .u8 z')) (first | exact ⟨c1, c2⟩) (first | fail)
          go_wp2
          go_ret
          exact ⟨by rw [FIN.out.2]; rfl, FIN.out.1⟩
      · obtain rfl : k = n := by omega
        have hDt : D = true := by
          rw [hD]
          simp only [decide_eq_true_eq]
          refine List.ext_getElem? fun j => ?_
          by_cases hj : j < k
          · exact hpre j hj
          · rw [List.getElem?_eq_none (by have := HN.out.1; omega), List.getElem?_eq_none (by have := HN.out.2; omega)]
        have FIN := Lib.hid (And.intro hbk hDt)
        clear hbk hpre hD hDt
        go_wp2
        go_ret
        exact ⟨by rw [FIN.out.2]; rfl, FIN.out.1⟩
  · have hD : decide (xs = ys) = false := by
      simp only [decide_eq_false_iff_not]
      intro e
      exact hlen (by rw [e])
    rw [hD]
    have hne : ((xs.length : Nat) : Int) ≠ (ys.length : Int) := by omega
    clear h3 h3' hlen hD
    generalize xs.length = n at *
    generalize ys.length = m at *
    go_enter Tryz.func9, Tryz.ntmps9
    go_wp2
    go_ret
    exact ⟨rfl, Below.refl _ _⟩
end Go.Proofs.YtmpilpgabelmiaaGreatDoor

/- The reference with tags: is a field as it is by default? -/
namespace Go.Proofs.YtmpilpgabelmiaaGreatDoor
open Go Go.RowKit
set_option linter.unusedVariables false

theorem keepUs {g n : Nat} {w w' : World} {a b c : Value} (hb : Below n w w') (hg : g + 1 < n) (h : w.cell? ⟨g, 0, none⟩ = some a ∧ w.cell? ⟨g, 5, none⟩ = some b ∧ w.cell? ⟨g + 1, 0, none⟩ = some c) :
    w'.cell? ⟨g, 0, none⟩ = some a ∧ w'.cell? ⟨g, 5, none⟩ = some b ∧ w'.cell? ⟨g + 1, 0, none⟩ = some c :=
  ⟨(hb.cell (p := ⟨g, 0, none⟩) (by show g < n; omega)).trans h.1, (hb.cell (p := ⟨g, 5, none⟩) (by show g < n; omega)).trans h.2.1, (hb.cell (p := ⟨g + 1, 0, none⟩) hg).trans h.2.2⟩
set_option maxRecDepth 100000 in
set_option maxHeartbeats 6400000 in
theorem spUsualNum (k : Int) (h0 : k ≠ 0) (h7 : k ≠ 7) (h8 : k ≠ 8) (h9 : k ≠ 9) (h10 : k ≠ 10) (h11 : k ≠ 11) (fr to nu tg df ok : Int) (sv : Value) (n : Int) (tsv lv uv : Value) (nb : Bool) (base : Nat) (w : World) (hb : base ≤ w.heap.size) :
    Says Tryz.prog 50 #[.agg #[.int .i64 k, .int .i64 fr, .int .i64 to, .int .i64 nu, .int .i64 tg, .int .i64 df, .int .i64 ok, sv], .agg #[.int .i64 n, tsv, .bool nb, lv, uv]] w base (.bool (decide (fixed n (pWidth k) = fixed df (pWidth k)))) := by
  have hF := Blk.alloc_new w [.int .i64 k, .int .i64 fr, .int .i64 to, .int .i64 nu, .int .i64 tg, .int .i64 df, .int .i64 ok, sv] 45
  have hF2 := hF.alloc (.cells #[.int .i64 n, tsv, .bool nb, lv, uv] 26)
  have hT := Blk.alloc_new2 w (.cells #[.int .i64 k, .int .i64 fr, .int .i64 to, .int .i64 nu, .int .i64 tg, .int .i64 df, .int .i64 ok, sv] 45) [.int .i64 n, tsv, .bool nb, lv, uv] 26
  have hbel := ((Below.refl base w).alloc hb (.cells #[.int .i64 k, .int .i64 fr, .int .i64 to, .int .i64 nu, .int .i64 tg, .int .i64 df, .int .i64 ok, sv] 45)).alloc (Nat.le_trans hb (by simp)) (.cells #[.int .i64 n, tsv, .bool nb, lv, uv] 26)
  have hsz : ((w.alloc (.cells #[.int .i64 k, .int .i64 fr, .int .i64 to, .int .i64 nu, .int .i64 tg, .int .i64 df, .int .i64 ok, sv] 45)).alloc (.cells #[.int .i64 n, tsv, .bool nb, lv, uv] 26)).heap.size = w.heap.size + 2 := by simp
  have S0 : _ ∧ _ ∧ _ := ⟨hF2.cell_some (i := 0) rfl, hF2.cell_some (i := 5) rfl, hT.cell_some (i := 0) rfl⟩
  clear hF hF2 hT
  have Z := Lib.hid (And.intro hbel (And.intro hsz S0))
  clear hbel hsz S0
  obtain ⟨R, hR⟩ : ∃ R, R = decide (fixed n (pWidth k) = fixed df (pWidth k)) := ⟨_, rfl⟩
  rw [← hR]
  have HR := Lib.hid hR
  clear hR
  go_enter Tryz.func50, Tryz.ntmps50
  go_wp2_with fail
  obtain ⟨w2, hw2⟩ : ∃ w2, w2 = (w.alloc (.cells #[.int .i64 k, .int .i64 fr, .int .i64 to, .int .i64 nu, .int .i64 tg, .int .i64 df, .int .i64 ok, sv] 45)).alloc (.cells #[.int .i64 n, tsv, .bool nb, lv, uv] 26) := ⟨_, rfl⟩
  rw [← hw2] at Z ⊢
  clear hw2
  have hsz := Z.out.2.1
  have hC : w2.drew.cell? ⟨w.heap.size, 0, none⟩ = some (.int .i64 k) ∧ w2.drew.cell? ⟨w.heap.size, 5, none⟩ = some (.int .i64 df) ∧ w2.drew.cell? ⟨w.heap.size + 1, 0, none⟩ = some (.int .i64 n) := Z.out.2.2
  have hds : w2.drew.heap.size = w2.heap.size := rfl
  have HC := Lib.hid hC
  clear hC
  go_region_held3 (fun w' => w'.cell? ⟨w.heap.size, 0, none⟩ = some (.int .i64 k) ∧ w'.cell? ⟨w.heap.size, 5, none⟩ = some (.int .i64 df) ∧ w'.cell? ⟨w.heap.size + 1, 0, none⟩ = some (.int .i64 n))
    (first
      | exact hS5 | exact hS4 | exact hS3 | exact HC.out)
    (first
      | (go_at_call 84; refine (spWidth k _).mono ?_; rintro e w9 ⟨rfl, hw9⟩; subst w9)
      | (go_at_call 16; have _h3 := hS3; refine (spFixed df k w3.heap.size w3 (Nat.le_refl _)).mono ?_; rintro e w4 ⟨v4, rfl, ho4, hb4⟩; have hz4 := hb4.size; have hS4 := keepUs hb4 (by omega) hS3)
      | (go_at_call 16; refine (spFixed n k w2.drew.heap.size w2.drew (Nat.le_refl _)).mono ?_; rintro e w3 ⟨v3, rfl, ho3, hb3⟩; have hz3 := hb3.size; have hS3 := keepUs hb3 (by omega) HC.out)
      | (go_at_call 9; refine (spSameG (fixed n (pWidth k)) (fixed df (pWidth k)) _ _ w4.heap.size w4.heap.size w4 (Nat.le_refl _) ((ho3.stay hb4 (Nat.le_refl _)).rl) ho4.rl (Nat.le_refl _)).mono ?_; rintro e w5 ⟨rfl, hb5⟩; have hS5 := keepUs hb5 (by omega) hS4))
  have F := Lib.hid (show R = decide (fixed n (pWidth k) = fixed df (pWidth k)) ∧ Below base w w5 from ⟨HR.out, Z.out.1.drew.trans ((hb3.mono (by have := Z.out.1.size; omega)).trans ((hb4.mono (by have := Z.out.1.size; omega)).trans (hb5.mono (by have := Z.out.1.size; omega))))⟩)
  clear ho3 ho4 hb3 hb4 hb5
  go_wp2
  go_ret
  exact ⟨by rw [F.out.1]; rfl, F.out.2⟩
set_option maxRecDepth 100000 in
set_option maxHeartbeats 3200000 in
theorem spUsualList (fr to nu tg df ok : Int) (sv : Value) (n : Int) (tsv uv : Value) (la : Option Addr) (ln lc : Nat) (nb : Bool) (base : Nat) (w : World) (hb : base ≤ w.heap.size) :
    Says Tryz.prog 50 #[.agg #[.int .i64 11, .int .i64 fr, .int .i64 to, .int .i64 nu, .int .i64 tg, .int .i64 df, .int .i64 ok, sv], .agg #[.int .i64 n, tsv, .bool nb, .slice la ln lc, uv]] w base (.bool (decide (ln = 0))) := by
  have hbel := ((Below.refl base w).alloc hb (.cells #[.int .i64 11, .int .i64 fr, .int .i64 to, .int .i64 nu, .int .i64 tg, .int .i64 df, .int .i64 ok, sv] 45)).alloc (Nat.le_trans hb (by simp)) (.cells #[.int .i64 n, tsv, .bool nb, .slice la ln lc, uv] 26)
  have Z := Lib.hid hbel
  clear hbel
  have e : (((ln : Nat) : Int) == 0) = decide (ln = 0) := by
    rw [Bool.eq_iff_iff]
    simp
  by_cases hl : ln = 0
  · subst hl
    go_enter Tryz.func50, Tryz.ntmps50
    go_wp2
    go_ret
    exact ⟨by simp, Z.out⟩
  · have hl2 : ((ln : Nat) : Int) ≠ 0 := by omega
    rw [decide_eq_false hl]
    go_enter Tryz.func50, Tryz.ntmps50
    go_wp2
    go_ret
    exact ⟨by simp [hl], Z.out⟩
/-- The kinds of known tags' fields that are dealt with. -/
def kindT (k : Int) : Prop := (1 ≤ k ∧ k ≤ 6) ∨ k = 11
theorem spUsual (k fr to nu tg df ok : Int) (sv : Value) (t : Tree) (c : List Value) (B base : Nat) (w : World) (hb : base ≤ w.heap.size) (hk : kindT k) (ht : RepT B w c t) :
    Says Tryz.prog 50 #[.agg #[.int .i64 k, .int .i64 fr, .int .i64 to, .int .i64 nu, .int .i64 tg, .int .i64 df, .int .i64 ok, sv], .agg c.toArray] w base (.bool (usualT k df t)) := by
  obtain ⟨tsv, lv, uv, rfl, -, -, ⟨la, lc, lf, rfl, -⟩, -⟩ := ht.parts
  rcases hk with hk | rfl
  · unfold usualT
    rw [if_neg (by omega)]
    exact spUsualNum k (by omega) (by omega) (by omega) (by omega) (by omega) (by omega) fr to nu tg df ok sv t.n tsv _ uv t.null base w hb
  · have e : usualT 11 df t = decide (t.l.length = 0) := by
      unfold usualT
      rw [if_pos rfl]
      cases t.l <;> simp
    rw [e]
    exact spUsualList fr to nu tg df ok sv t.n tsv uv la t.l.length lc t.null base w hb
end Go.Proofs.YtmpilpgabelmiaaGreatDoor

/- What the reference writes of a message whose own fields have tags. -/
namespace Go.Proofs.YtmpilpgabelmiaaGreatDoor
open Go Go.RowKit
set_option linter.unusedVariables false

/-- Known tags' fields are of the kinds dealt with. -/
def PFs.kindOK : PFs → Prop
  | .nil => True
  | .cons k _ _ _ tg _ _ _ rest => (tg = -1 ∨ kindT k) ∧ rest.kindOK
/-- The function writes of a message's fields what pPartT says. -/
def PartCT (fs : PFs) (ver : Int) (flex : Bool) (t : Tree) : Prop :=
  ∀ (B base : Nat) (w : World) (fv : Value) (c : List Value), B ≤ base → base ≤ w.heap.size → RepF B w fs fv → RepT B w c t → (pPartT ver flex fs t).length ≤ lim →
    Gives Tryz.prog 23 #[fv, .int .i64 ver, .bool flex, .agg c.toArray] w base (pPartT ver flex fs t)

theorem pFields_tag {ver : Int} {flex : Bool} {k fr to nu df ok : Int} {g : Nat} {sub rest : PFs} {i : Nat} {t : Tree} : pFields ver flex (.cons k fr to nu (g : Int) df ok sub rest) i t = pFields ver flex rest (i + 1) t := by
  have : ¬ ((g : Int) < 0) := by omega
  simp [pFields, this]
theorem pKn_succ {ver : Int} {flex : Bool} {fs : PFs} {k : Nat} {t : Tree} : pKn ver flex fs (k + 1) t = pKn ver flex fs k t ++ pOne ver flex k fs 0 t := by
  unfold pKn
  rw [List.range_succ, List.flatMap_append]
  simp
theorem pKn_pre {ver : Int} {flex : Bool} {fs : PFs} {t : Tree} {k : Nat} : ∀ {n : Nat}, k ≤ n → ∃ r, pKn ver flex fs n t = pKn ver flex fs k t ++ r
  | 0, h => ⟨[], by obtain rfl : k = 0 := by omega
                    simp⟩
  | n + 1, h => by
    rcases Nat.lt_or_ge n k with h1 | h1
    · obtain rfl : k = n + 1 := by omega
      exact ⟨[], by simp⟩
    · obtain ⟨r, hr⟩ := pKn_pre (n := n) h1
      exact ⟨r ++ pOne ver flex n fs 0 t, by rw [pKn_succ, hr, List.append_assoc]⟩
theorem pOne_skip {ver : Int} {flex : Bool} {kt : Nat} {k fr to nu tg df ok : Int} {sub rest : PFs} {i : Nat} {t : Tree} (h : tg ≠ (kt : Int)) : pOne ver flex kt (.cons k fr to nu tg df ok sub rest) i t = pOne ver flex kt rest (i + 1) t := by
  simp [pOne, h]
theorem pOne_usual {ver : Int} {flex : Bool} {kt : Nat} {k fr to nu tg df ok : Int} {sub rest : PFs} {i : Nat} {t : Tree} (h : usualT k df (atT t i) = true) : pOne ver flex kt (.cons k fr to nu tg df ok sub rest) i t = pOne ver flex kt rest (i + 1) t := by
  simp [pOne, h]
theorem pOne_take {ver : Int} {flex : Bool} {kt : Nat} {k fr to nu df ok : Int} {sub rest : PFs} {i : Nat} {t : Tree} (h : usualT k df (atT t i) = false) :
    pOne ver flex kt (.cons k fr to nu (kt : Nat) df ok sub rest) i t = (kt, pField ver flex k nu ok (pPart ver flex sub) (atT t i)) :: pOne ver flex kt rest (i + 1) t := by
  simp [pOne, h]

theorem unkToN_length (kN : Nat) (l : List (Nat × List UInt8)) : ∀ n, (unkToN kN n l).length ≤ n
  | 0 => Nat.le_refl _
  | n + 1 => by
    have ih := unkToN_length kN l n
    cases h : l[n]? with
    | none =>
      have hn : l.length ≤ n := List.getElem?_eq_none_iff.1 h
      have e : unkToN kN (n + 1) l = unkToN kN n l := by unfold unkToN; rw [List.take_of_length_le hn, List.take_of_length_le (by omega)]
      rw [e]
      omega
    | some t =>
      by_cases hk : kN ≤ t.1
      · rw [unkToN_succ h hk, insU_insG]
        have := insG_length t.1 t.2 (unkToN kN n l)
        omega
      · rw [unkToN_skip h (by omega)]
        omega
theorem unkN_len (kN : Nat) (l : List (Nat × List UInt8)) : (unkN kN l).length ≤ 32767 := by
  rw [unkN_unkToN]
  have := unkToN_length kN l (min l.length 32767)
  omega

theorem wpl_append_fromZ {P : Program} {w : World} {ops : Array Oper} {rest : List Oper} {o : Oper} {a : Act} {Q : Exit → Act → World → Prop} {t tx : TypeId} (T : BytesT P t 5) (hgd : o.guard = none) (s x : Operand)
    (ho : o.op = .call { callee := .builtin .append, args := #[s, x], argTypes := #[t, tx] }) (base : Nat) (bs : List UInt8) (hown : Own base w (a.eval s) bs) (hb : base ≤ w.heap.size)
    (bs' : List UInt8) (hsrc : Src P 1 tx (a.eval x) bs'.length (bs'.map byteV) w) (hl : bs.length + bs'.length ≤ lim)
    (h : ∀ v' w', Own base w' v' (bs ++ bs') → Below base w w' → (∀ z, z < w.heap.size → (a.eval s).ownBlock ≠ some z → w'.heap[z]? = w.heap[z]? ∧ v'.ownBlock ≠ some z) → wpList P ops Q rest (a.put o.dst v') w') : wpList P ops Q (o :: rest) a w := by
  obtain ⟨i, hi, hz, hs, hby⟩ := T.info
  refine wpl_append_srcZ hgd s x t tx ho base 5 i (.int .u8 0) 1 1 T.under hi hz hs hby rfl (a.eval s) bs.length (bs.map byteV) rfl hown _ bs'.length (bs'.map byteV) rfl hsrc (lim_max hl) (lim_room hl) hb ?_
  intro v' w' hown' hg hnew
  refine h v' w' ?_ ?_ ?_
  · unfold Own
    simpa using hown'
  · exact (Below.refl _ _).grown hg hb (fun k hk => by
      have := hown.lt k hk
      omega)
  · intro z hz hne
    refine ⟨hg.block z hz (fun e => hne e.symm), fun e => ?_⟩
    rcases hnew z e with h1 | h1
    · exact hne h1
    · omega

set_option maxRecDepth 100000 in
set_option maxHeartbeats 6400000 in
theorem partOfT (fs : PFs) (htag : fs.tagOK) (hkind : fs.kindOK) (hsub : SubsAll fs) (ver : Int) (flex : Bool) (t : Tree)
    (hlen0 : (pKn ver true fs fs.known t).length ≤ 1000) (hcont : ∀ x ∈ pKn ver true fs fs.known t, x.2.length ≤ 4294967295) : PartCT fs ver flex t := by
  intro B base w fv c hB hb hf ht hl
  have HK0 := Lib.hid (And.intro hkind (And.intro hsub (And.intro hlen0 hcont)))
  clear hkind hlen0 hcont
  obtain ⟨fa, fcap, rfl, -⟩ := id hf
  obtain ⟨hmax, hne, L0⟩ := LeftT.start hf htag
  obtain ⟨n, hnn⟩ : ∃ n, fs.len = n := ⟨_, rfl⟩
  rw [hnn] at hmax hne L0 hf ⊢
  obtain ⟨sv, lv, uv, rfl, -, ⟨sa, sc, rfl, -⟩, ⟨la, lc, lf, rfl, -⟩, hU⟩ := ht.parts
  obtain ⟨ua, uc, rfl, -⟩ := id hU
  have hw2 := Blk.alloc_new w [.int .i64 t.n, .slice sa t.s.length sc, .bool t.null, .slice la t.l.length lc, .slice ua t.u.length uc] 26
  have hbw := (Below.refl base w).alloc hb (.cells #[.int .i64 t.n, .slice sa t.s.length sc, .bool t.null, .slice la t.l.length lc, .slice ua t.u.length uc] 26)
  have e1 : (w.alloc (.cells #[.int .i64 t.n, .slice sa t.s.length sc, .bool t.null, .slice la t.l.length lc, .slice ua t.u.length uc] 26)).heap.size = w.heap.size + 1 := by simp
  have H := Lib.hid (And.intro hw2 (And.intro hbw (And.intro e1 (And.intro hf (And.intro ht (And.intro hU (And.intro hne (And.intro L0 hsub))))))))
  have HTAG := Lib.hid htag
  clear hw2 hbw e1 hf ht hU hne L0 hsub htag
  go_enter Tryz.func23, Tryz.ntmps23
  go_wp2_with fail
  obtain ⟨w2, hw2e⟩ : ∃ w2, w2 = w.alloc (.cells #[.int .i64 t.n, .slice sa t.s.length sc, .bool t.null, .slice la t.l.length lc, .slice ua t.u.length uc] 26) := ⟨_, rfl⟩
  rw [← hw2e] at H ⊢
  clear hw2e
  go_loopw [9, 23] (fun v i wr => ∃ k gs X, i = .int .i64 (k : Nat) ∧ Own (w.heap.size + 1) wr v X ∧ X ++ pFields ver flex gs k t = pFields ver flex fs 0 t ∧ LeftT B w fa n k gs ∧ SubsAll gs ∧ Below (w.heap.size + 1) w2 wr)
    (fun _ i _ => n - (intOf i).toNat)
  case atStart =>
    obtain ⟨hw2, hbw, e1, hf, ht, hU, hne, L0, hsub⟩ := H.out
    exact ⟨0, fs, [], rfl, Own.nil _ _, rfl, L0, hsub, Below.refl _ _⟩
  case round =>
    obtain ⟨k, gs, X, rfl, hown, hX, L, hsub, hbk⟩ := hrel
    obtain ⟨hw2, hbw, e1, hf, ht, hU, hne, -, -⟩ := H.out
    cases gs with
    | nil =>
      have hlen := L.len
      simp only [PFs.len, Nat.add_zero] at hlen
      subst hlen
      have hXe : X = pFields ver flex fs 0 t := by rw [← hX]; simp [pFields]
      have hww : w.heap.size + 1 ≤ wr.heap.size := by have := hbk.size; omega
      have hbwr : Below base w wr := hbw.trans (hbk.mono (by omega))
      clear hX L hsub hne
      cases flex
      · have e : pPartT ver false fs t = X := by rw [hXe]; simp [pPartT, pTailT]
        have R := Lib.hid (And.intro (show Own base wr u9 (pPartT ver false fs t) by rw [e]; exact hown.mono (show base ≤ w.heap.size + 1 by omega)) hbwr)
        clear hbwr hown e hXe hw2 hbw e1 hf ht hU
        go_wp2
        go_ret
        exact .mk R.out.1 R.out.2
      · obtain ⟨kn, hkn⟩ : ∃ kn, fs.known = kn := ⟨_, rfl⟩
        obtain ⟨KT, hKT⟩ : ∃ KT, pKn ver true fs kn t = KT := ⟨_, rfl⟩
        obtain ⟨U, hUe⟩ : ∃ U, unkN kn t.u = U := ⟨_, rfl⟩
        have hkn9 : kn ≤ 901 := by rw [← hkn]; exact PFs.known_le HTAG.out
        have uk2 : U.length ≤ 32767 := by rw [← hUe]; exact unkN_len kn t.u
        obtain ⟨hkind, hsub, hKl, hKc⟩ := HK0.out
        rw [hkn, hKT] at hKl hKc
        have e : pPartT ver true fs t = X ++ (uv (KT.length + U.length) ++ KT.flatMap kTag ++ U.flatMap pTag) := by rw [hXe]; simp only [pPartT, pTailT, if_true, hkn, hKT, hUe]
        have hlX : X.length + (uv (KT.length + U.length)).length + (KT.flatMap kTag).length + (U.flatMap pTag).length ≤ lim := by
          rw [e] at hl
          simp only [List.length_append] at hl
          omega
        have E := Lib.hid e
        clear e
        have K := Lib.hid (spKnownN fs HTAG.out (.slice fa k fcap) B wr.heap.size wr (by omega) (Nat.le_refl _) (hf.below (hbwr.mono hB)))
        have R := Lib.hid (And.intro hown (And.intro hbwr (And.intro hf (And.intro hU (And.intro ht (And.intro (hw2.below hbk (by omega)) (And.intro hkind (And.intro hsub hKc))))))))
        rw [hkn] at K
        clear hbwr hown hXe hw2 hbw e1 hf ht hU hkind hsub hKc hbk
        go_wp2_with fail
        refine K.out.mono ?_
        rintro e w6 ⟨rfl, hb6⟩
        clear K
        obtain ⟨hown, hbwr, hf, hU, ht, hT, hkind, hsub, hKc⟩ := R.out
        have z6 := hb6.size
        have hbw6 := hbwr.trans (hb6.mono (show base ≤ wr.heap.size by have := hbwr.size; omega))
        have hB6 : B ≤ w6.heap.size := by have := hbw6.size; omega
        have hf6 := hf.below (hbw6.mono hB)
        obtain ⟨-, hne6, L06⟩ := LeftT.start hf6 HTAG.out
        rw [show fs.len = k from hnn] at hne6 L06
        have R6 := Lib.hid (And.intro (hown.stay hb6 (Nat.le_refl _)) (And.intro hbw6 (And.intro hf6 (And.intro (hU.below (hbw6.mono hB)) (And.intro (ht.keep (hbw6.mono hB)) (And.intro (hT.below hb6 (by omega)) (And.intro hkind (And.intro hsub (And.intro hKc (And.intro hne6 L06))))))))))
        clear hown hbwr hf hU hT hb6 hkind hsub hKc hf6 hne6 L06 hbw6 R ht
        go_wp2_with fail
        go_loopw [10, 11, 52] (fun tv nv i wq => ∃ m : Nat, i = .int .i64 (m : Nat) ∧ m ≤ kn ∧ nv = .int .i64 ((pKn ver true fs m t).length : Nat) ∧ Own w6.heap.size wq tv ((pKn ver true fs m t).flatMap kTag) ∧ Below w6.heap.size w6 wq)
          (fun _ _ i _ => kn - (intOf i).toNat)
        case atStart => exact ⟨0, rfl, Nat.zero_le _, rfl, Own.nil _ _, Below.refl _ _⟩
        case round =>
          obtain ⟨m, rfl, hm, rfl, hownK, hbq⟩ := hrel
          rename World => wq
          have zq := hbq.size
          by_cases hml : m < kn
          · obtain ⟨r, hr⟩ := pKn_pre (ver := ver) (flex := true) (fs := fs) (t := t) (k := m + 1) (n := kn) (by omega)
            rw [hKT] at hr
            have HO := Lib.hid (And.intro hownK hbq)
            have HR := Lib.hid hr
            obtain ⟨l0, hl0⟩ : ∃ l0, (pKn ver true fs m t).length = l0 := ⟨_, rfl⟩
            rw [hl0]
            clear hownK hbq hr
            go_wp2_with fail
            go_loopw [10, 11, 57] (fun tv nv i wo => ∃ (j : Nat) (gs : PFs) (acc : List (Nat × List UInt8)), i = .int .i64 (j : Nat) ∧ nv = .int .i64 (acc.length : Nat) ∧ acc ++ pOne ver true m gs j t = pKn ver true fs (m + 1) t ∧ LeftT B w6 fa k j gs ∧ gs.kindOK ∧ SubsAll gs ∧ Own w6.heap.size wo tv (acc.flatMap kTag) ∧ Below w6.heap.size w6 wo)
              (fun _ _ i _ => k - (intOf i).toNat)
            case atStart =>
              obtain ⟨-, -, -, -, -, -, hkind, hsub, -, -, L06⟩ := R6.out
              exact ⟨0, fs, pKn ver true fs m t, rfl, by rw [hl0], pKn_succ.symm, L06, hkind, hsub, HO.out.1, HO.out.2⟩
            case round =>
              obtain ⟨j, gs, acc, rfl, rfl, hacc, L, hkd, hsb, hownT, hbo⟩ := hrel
              rename World => wo
              have zo := hbo.size
              have hlen := L.len
              have haccl : acc.length ≤ 1000 := by
                have e1 := congrArg List.length hacc
                have e2 := congrArg List.length HR.out
                simp only [List.length_append] at e1 e2
                omega
              cases gs with
              | nil =>
                simp only [PFs.len, Nat.add_zero] at hlen
                subst hlen
                have hae : acc = pKn ver true fs (m + 1) t := by rw [← hacc]; simp [pOne]
                have FIN := Lib.hid (And.intro hownT (And.intro hbo hae))
                clear hownT hbo hacc L hae
                go_wp2
                go_roundw
                case rel => exact ⟨m + 1, by go_num, by omega, by rw [← FIN.out.2.2], by rw [← FIN.out.2.2]; exact FIN.out.1, FIN.out.2.1⟩
                case measure => simp [intOf]; omega
              | cons kk fr to nu tg df ok sub rest =>
                obtain ⟨hX6, hbw6, hf6, hU6, ht6, hT6, -, -, hKc, hne6, -⟩ := R6.out
                have hjn : j < k := by simp only [PFs.len] at hlen; omega
                obtain ⟨p, q, rfl, hp⟩ := hne6 (by omega)
                have hboB : Below B w6 wo := hbo.mono hB6
                obtain ⟨⟨h1, h2, h3, h4, h5, h6, h7⟩, ⟨v8, h8, a8, cap8, rfl, hf8⟩, hrest⟩ := (L.cells p q rfl).below hboB hp
                have hsubF : RepF B wo sub (.slice a8 sub.len cap8) := ⟨a8, cap8, rfl, hf8⟩
                have hpw : p < wo.heap.size := by omega
                have hww : w.heap.size < w6.heap.size := by omega
                have hTo := boxT (hT6.below hbo hww)
                have hF := boxF (Blk.alloc_new wo [.int .i64 kk, .int .i64 fr, .int .i64 to, .int .i64 nu, .int .i64 tg, .int .i64 df, .int .i64 ok, .slice a8 sub.len cap8] 45)
                have hb5 := fun o => (Below.refl wo.heap.size wo).alloc (Nat.le_refl _) o
                have Z := Lib.hid (And.intro hsubF (And.intro L.next (And.intro hsb.1 (And.intro hsb.2 (And.intro hkd.2 (And.intro hTo (And.intro hF (And.intro hb5 (And.intro hownT (And.intro hbo (And.intro (ht6.keep hboB) (And.intro hKc hacc))))))))))))
                have HKD := Lib.hid hkd.1
                clear hsubF L hsb hkd hTo hF hb5 hownT hbo ht6 hKc hacc hX6 hbw6 hf6 hU6 hT6 hne6 hrest
                go_wp2_with fail
                obtain ⟨wA, hwA⟩ : ∃ wA, wA = wo.alloc (.cells #[.int .i64 kk, .int .i64 fr, .int .i64 to, .int .i64 nu, .int .i64 tg, .int .i64 df, .int .i64 ok, .slice a8 sub.len cap8] 45) := ⟨_, rfl⟩
                obtain ⟨hsubF, Ln, hsb1, hsb2, hkd2, hTo, hF, hb5, hownT, hbo, hto, hKc, hacc⟩ := Z.out
                have zA : wA.heap.size = wo.heap.size + 1 := by rw [hwA]; simp
                have bA : Below wo.heap.size wo wA := by rw [hwA]; exact hb5 _
                rw [← hwA] at hF ⊢
                clear hb5 hwA
                have D : ∀ n, Below n wA wA.drew := fun n => (Below.refl n wA).drew
                have dsz : wA.drew.heap.size = wA.heap.size := rfl
                have hC : wA.drew.cell? ⟨w.heap.size, 0, none⟩ = some (.int .i64 t.n) ∧ wA.drew.cell? ⟨w.heap.size, 1, none⟩ = some (.slice sa t.s.length sc) ∧ wA.drew.cell? ⟨w.heap.size, 2, none⟩ = some (.bool t.null) ∧ wA.drew.cell? ⟨w.heap.size, 3, none⟩ = some (.slice la t.l.length lc) ∧ wA.drew.cell? ⟨w.heap.size, 4, none⟩ = some (.slice ua t.u.length uc) ∧ wA.drew.cell? ⟨wo.heap.size, 0, none⟩ = some (.int .i64 kk) ∧ wA.drew.cell? ⟨wo.heap.size, 1, none⟩ = some (.int .i64 fr) ∧ wA.drew.cell? ⟨wo.heap.size, 2, none⟩ = some (.int .i64 to) ∧ wA.drew.cell? ⟨wo.heap.size, 3, none⟩ = some (.int .i64 nu) ∧ wA.drew.cell? ⟨wo.heap.size, 4, none⟩ = some (.int .i64 tg) ∧ wA.drew.cell? ⟨wo.heap.size, 5, none⟩ = some (.int .i64 df) ∧ wA.drew.cell? ⟨wo.heap.size, 6, none⟩ = some (.int .i64 ok) ∧ wA.drew.cell? ⟨wo.heap.size, 7, none⟩ = some (.slice a8 sub.len cap8) := by
                  obtain ⟨t0, t1, t2, t3, t4⟩ := hTo
                  obtain ⟨f0, f1, f2, f3, f4, f5, f6, f7⟩ := hF
                  have hP : ∀ i, wA.cell? ⟨w.heap.size, i, none⟩ = wo.cell? ⟨w.heap.size, i, none⟩ := fun i => bA.cell (p := ⟨w.heap.size, i, none⟩) (by show w.heap.size < wo.heap.size; omega)
                  exact ⟨(hP 0).trans t0, (hP 1).trans t1, (hP 2).trans t2, (hP 3).trans t3, (hP 4).trans t4, f0, f1, f2, f3, f4, f5, f6, f7⟩
                have bAD : Below wo.heap.size wo wA.drew := bA.trans (D _)
                have hownA := hownT.stay bAD (Nat.le_refl _)
                have hbA : Below w6.heap.size w6 wA.drew := hbo.trans (bAD.mono zo)
                by_cases htm : tg = (m : Int)
                · subst htm
                  have hkT : kindT kk := by
                    rcases HKD.out with h | h
                    · omega
                    · exact h
                  have hm1000 : ((m : Nat) : Int) ≤ 1000 := by omega
                  have HC := Lib.hid hC
                  have HT6 := Lib.hid (And.intro (hto.keep (bAD.mono (by omega))) (hsubF.below (bAD.mono (by omega))))
                  have HO2 := Lib.hid (And.intro hownT (And.intro hownA (And.intro hbA (And.intro hKc hacc))))
                  have HN := Lib.hid (And.intro Ln (And.intro hsb1 (And.intro hsb2 hkd2)))
                  clear hC D hTo hF hsubF Ln hsb1 hsb2 hkd2 hownT hownA hbA hKc hacc hto bA bAD hbo h1 h2 h3 h4 h5 h6 h7 h8
                  have US := Lib.hid (fun (c7 : List Value) (w7 : World) (ht7 : RepT B w7 c7 (atT t j)) => spUsual kk fr to nu (m : Nat) df ok (.slice a8 sub.len cap8) (atT t j) c7 B w7.heap.size w7 (Nat.le_refl _) hkT ht7)
                  cases hus : usualT kk df (atT t j)
                  · rw [hus] at US
                    go_region_held3 (fun w' => w'.cell? ⟨w.heap.size, 0, none⟩ = some (.int .i64 t.n) ∧ w'.cell? ⟨w.heap.size, 1, none⟩ = some (.slice sa t.s.length sc) ∧ w'.cell? ⟨w.heap.size, 2, none⟩ = some (.bool t.null) ∧ w'.cell? ⟨w.heap.size, 3, none⟩ = some (.slice la t.l.length lc) ∧ w'.cell? ⟨w.heap.size, 4, none⟩ = some (.slice ua t.u.length uc) ∧ w'.cell? ⟨wo.heap.size, 0, none⟩ = some (.int .i64 kk) ∧ w'.cell? ⟨wo.heap.size, 1, none⟩ = some (.int .i64 fr) ∧ w'.cell? ⟨wo.heap.size, 2, none⟩ = some (.int .i64 to) ∧ w'.cell? ⟨wo.heap.size, 3, none⟩ = some (.int .i64 nu) ∧ w'.cell? ⟨wo.heap.size, 4, none⟩ = some (.int .i64 (m : Nat)) ∧ w'.cell? ⟨wo.heap.size, 5, none⟩ = some (.int .i64 df) ∧ w'.cell? ⟨wo.heap.size, 6, none⟩ = some (.int .i64 ok) ∧ w'.cell? ⟨wo.heap.size, 7, none⟩ = some (.slice a8 sub.len cap8))
                      (first | exact hS8 | exact hS7 | exact HC.out)
                      (first
                        | (go_at_call 48; refine (spAt t _ j B wA.drew.heap.size wA.drew (by omega) (Nat.le_refl _) HT6.out.1 (by omega)).mono ?_; rintro e w7 ⟨c7, rfl, ht7, hb7⟩; have z7 := hb7.size; have hS7 := keep13c (fun i => hb7.cell (p := ⟨w.heap.size, i, none⟩) (by show w.heap.size < wA.drew.heap.size; omega)) (fun i => hb7.cell (p := ⟨wo.heap.size, i, none⟩) (by show wo.heap.size < wA.drew.heap.size; omega)) HC.out)
                        | (go_at_call 50; refine (US.out c7 w7 ht7).mono ?_; rintro e w8 ⟨rfl, hb8⟩; have z8 := hb8.size; have hS8 := keep13c (fun i => hb8.cell (p := ⟨w.heap.size, i, none⟩) (by show w.heap.size < w7.heap.size; omega)) (fun i => hb8.cell (p := ⟨wo.heap.size, i, none⟩) (by show wo.heap.size < w7.heap.size; omega)) hS7))
                    have hb78 : Below wA.drew.heap.size wA.drew w8 := hb7.trans (hb8.mono z7)
                    have dsz8 : w8.drew.heap.size = w8.heap.size := rfl
                    have D8 : ∀ n, Below n w8 w8.drew := fun n => (Below.refl n w8).drew
                    have hC8 : w8.drew.cell? ⟨w.heap.size, 0, none⟩ = some (.int .i64 t.n) ∧ w8.drew.cell? ⟨w.heap.size, 1, none⟩ = some (.slice sa t.s.length sc) ∧ w8.drew.cell? ⟨w.heap.size, 2, none⟩ = some (.bool t.null) ∧ w8.drew.cell? ⟨w.heap.size, 3, none⟩ = some (.slice la t.l.length lc) ∧ w8.drew.cell? ⟨w.heap.size, 4, none⟩ = some (.slice ua t.u.length uc) ∧ w8.drew.cell? ⟨wo.heap.size, 0, none⟩ = some (.int .i64 kk) ∧ w8.drew.cell? ⟨wo.heap.size, 1, none⟩ = some (.int .i64 fr) ∧ w8.drew.cell? ⟨wo.heap.size, 2, none⟩ = some (.int .i64 to) ∧ w8.drew.cell? ⟨wo.heap.size, 3, none⟩ = some (.int .i64 nu) ∧ w8.drew.cell? ⟨wo.heap.size, 4, none⟩ = some (.int .i64 (m : Nat)) ∧ w8.drew.cell? ⟨wo.heap.size, 5, none⟩ = some (.int .i64 df) ∧ w8.drew.cell? ⟨wo.heap.size, 6, none⟩ = some (.int .i64 ok) ∧ w8.drew.cell? ⟨wo.heap.size, 7, none⟩ = some (.slice a8 sub.len cap8) := hS8
                    have FC := spField kk fr to nu (m : Nat) df ok sub ver true (atT t j) trivial HN.out.2.1
                    unfold FieldC at FC
                    obtain ⟨body, hbody⟩ : ∃ bd, pField ver true kk nu ok (pPart ver true sub) (atT t j) = bd := ⟨_, rfl⟩
                    rw [hbody] at FC
                    have hacc2 := HO2.out.2.2.2.2
                    rw [pOne_take hus, hbody] at hacc2
                    have hKTe : KT = acc ++ (m, body) :: (pOne ver true m rest (j + 1) t ++ r) := by rw [HR.out, ← hacc2, List.append_assoc, List.cons_append]
                    have hbl : body.length ≤ 4294967295 := HO2.out.2.2.2.1 (m, body) (by rw [hKTe]; simp)
                    have hll : (acc.flatMap kTag).length + ((uv m).length + ((uv body.length).length + body.length)) ≤ (KT.flatMap kTag).length := by
                      rw [hKTe, List.flatMap_append, List.flatMap_cons]
                      simp only [List.length_append, kTag]
                      omega
                    have hal1 : acc.length + 1 ≤ 1000 := by
                      have e1 := congrArg List.length hKTe
                      simp only [List.length_append, List.length_cons] at e1
                      omega
                    have hlb : body.length ≤ lim := by omega
                    have FC := Lib.hid FC
                    have HT8 := Lib.hid (And.intro (HT6.out.1.keep ((hb78.mono (by omega)).trans (D8 B))) (HT6.out.2.below ((hb78.mono (by omega)).trans (D8 B))))
                    have HE := Lib.hid (And.intro hacc2 hKTe)
                    have HB78 := Lib.hid (And.intro hb78 D8)
                    clear hb7 hb8 hb78 D8 ht7 hS7 hS8 hacc2 hKTe HT6 US hbody
                    go_wp2_with fail
                    go_region_held3 (fun w' => w'.cell? ⟨w.heap.size, 0, none⟩ = some (.int .i64 t.n) ∧ w'.cell? ⟨w.heap.size, 1, none⟩ = some (.slice sa t.s.length sc) ∧ w'.cell? ⟨w.heap.size, 2, none⟩ = some (.bool t.null) ∧ w'.cell? ⟨w.heap.size, 3, none⟩ = some (.slice la t.l.length lc) ∧ w'.cell? ⟨w.heap.size, 4, none⟩ = some (.slice ua t.u.length uc) ∧ w'.cell? ⟨wo.heap.size, 0, none⟩ = some (.int .i64 kk) ∧ w'.cell? ⟨wo.heap.size, 1, none⟩ = some (.int .i64 fr) ∧ w'.cell? ⟨wo.heap.size, 2, none⟩ = some (.int .i64 to) ∧ w'.cell? ⟨wo.heap.size, 3, none⟩ = some (.int .i64 nu) ∧ w'.cell? ⟨wo.heap.size, 4, none⟩ = some (.int .i64 (m : Nat)) ∧ w'.cell? ⟨wo.heap.size, 5, none⟩ = some (.int .i64 df) ∧ w'.cell? ⟨wo.heap.size, 6, none⟩ = some (.int .i64 ok) ∧ w'.cell? ⟨wo.heap.size, 7, none⟩ = some (.slice a8 sub.len cap8))
                      (first | exact hS10 | exact hS9 | exact hC8)
                      (first
                        | (go_at_call 48; refine (spAt t _ j B w8.drew.heap.size w8.drew (by omega) (Nat.le_refl _) HT8.out.1 (by omega)).mono ?_; rintro e w9 ⟨c9, rfl, ht9, hb9⟩; have z9 := hb9.size; have hS9 := keep13c (fun i => hb9.cell (p := ⟨w.heap.size, i, none⟩) (by show w.heap.size < w8.drew.heap.size; omega)) (fun i => hb9.cell (p := ⟨wo.heap.size, i, none⟩) (by show wo.heap.size < w8.drew.heap.size; omega)) hC8)
                        | (go_at_call 47; refine (FC.out B w9.heap.size w9 _ c9 (by omega) (Nat.le_refl _) (HT8.out.2.below (hb9.mono (by omega))) ht9 hlb).mono ?_; rintro e w10 ⟨v10, rfl, ho10, hb10⟩; have z10 := hb10.size; have hS10 := keep13c (fun i => hb10.cell (p := ⟨w.heap.size, i, none⟩) (by show w.heap.size < w9.heap.size; omega)) (fun i => hb10.cell (p := ⟨wo.heap.size, i, none⟩) (by show wo.heap.size < w9.heap.size; omega)) hS9))
                    have bw10 : Below wA.drew.heap.size wA.drew w10 := HB78.out.1.trans ((HB78.out.2 _).trans ((hb9.mono (by omega)).trans (hb10.mono (by omega))))
                    obtain ⟨ba, bc, rfl, -⟩ := id ho10.rl
                    have HV := Lib.hid (And.intro ho10 (And.intro (HO2.out.2.1.stay bw10 (Nat.le_refl _)) (HO2.out.2.2.1.trans (bw10.mono (by omega)))))
                    have hbl2 : ((body.length : Nat) : Int) ≤ 4294967295 := by omega
                    clear ho10 bw10 hb9 hb10 ht9 hS9 hS10 hC8 HT8 FC
                    go_wp2_with fail
                    refine (spUvarint m (by omega) w10.heap.size w10 (Nat.le_refl _)).mono ?_
                    rintro e wB ⟨x1, rfl, ho1, hb1⟩
                    have zB := hb1.size
                    go_wp2_with (at_builtin; refine halted ?_)
                    refine wpl_append_fromZ bt rfl _ _ rfl w6.heap.size _ (HV.out.2.1.stay hb1 (Nat.le_refl _)) (by omega) (uv m) (Src.ofRL (B := wB.heap.size) Tryz.underlying22 ho1.rl) (by omega) ?_
                    intro v2 w2' hown2 hb2 hz2
                    have zB2 := hb2.size
                    have hbd1 := HV.out.1.stay hb1 (Nat.le_refl _)
                    have hn2 := fun g hg => hz2 g (hbd1.lt g hg).2 (fun e => by have h1 := HO2.out.1.lt g e; have h2 := HV.out.1.lt g hg; omega)
                    have hbd2 := hbd1.apart (w' := w2') (fun g hg => (hn2 g hg).1)
                    clear ho1 hbd1 hz2
                    have HB2 := Lib.hid (And.intro hbd2 (And.intro hn2 (And.intro hown2 ((hb1.mono (show w6.heap.size ≤ w10.heap.size by omega)).trans hb2))))
                    clear hbd2 hn2 hown2 hb1 hb2
                    go_wp2_with fail
                    refine (spUvarint body.length hbl w2'.heap.size w2' (Nat.le_refl _)).mono ?_
                    rintro e wC ⟨x3, rfl, ho3, hb3⟩
                    have zC := hb3.size
                    go_wp2_with (at_builtin; refine halted ?_)
                    refine wpl_append_fromZ bt rfl _ _ rfl w6.heap.size _ (HB2.out.2.2.1.stay hb3 (Nat.le_refl _)) (by omega) (uv body.length) (Src.ofRL (B := wC.heap.size) Tryz.underlying22 ho3.rl) (by rw [List.length_append]; omega) ?_
                    intro v4 w4 hown4 hb4 hz4
                    have z4 := hb4.size
                    have hbd3 := HB2.out.1.stay hb3 (Nat.le_refl _)
                    have hbd4 := hbd3.apart (w' := w4) (fun g hg => (hz4 g (hbd3.lt g hg).2 ((HB2.out.2.1 g hg).2)).1)
                    have HB4 := Lib.hid (And.intro hbd4 (HB2.out.2.2.2.trans ((hb3.mono (by omega)).trans hb4)))
                    clear ho3 hz4 hbd3 hbd4 hb3 hb4
                    go_wp2_with (at_builtin; refine halted ?_)
                    refine wpl_append_from bt rfl _ _ rfl w6.heap.size _ hown4 (by omega) body (Src.ofRL (B := w4.heap.size) Tryz.underlying22 HB4.out.1.rl) (by rw [List.length_append, List.length_append]; omega) ?_
                    intro v5 w5 hown5 hb5
                    have FIN := Lib.hid (And.intro (show Own w6.heap.size w5 v5 ((acc ++ [(m, body)]).flatMap kTag) by
                      rw [List.flatMap_append, List.flatMap_cons, List.flatMap_nil, List.append_nil]
                      simpa only [kTag, List.append_assoc] using hown5) (HV.out.2.2.trans (HB4.out.2.trans hb5)))
                    clear hown5 hown4 hb5 HB2 HB4
                    go_wp2
                    go_roundw
                    case rel => exact ⟨j + 1, rest, acc ++ [(m, body)], by go_num, by rw [List.length_append, List.length_singleton]; go_num, by rw [List.append_assoc]; exact HE.out.1, HN.out.1, HN.out.2.2.2, HN.out.2.2.1, FIN.out.1, FIN.out.2⟩
                    case measure => simp [intOf]; omega
                  · rw [hus] at US
                    go_region_held3 (fun w' => w'.cell? ⟨w.heap.size, 0, none⟩ = some (.int .i64 t.n) ∧ w'.cell? ⟨w.heap.size, 1, none⟩ = some (.slice sa t.s.length sc) ∧ w'.cell? ⟨w.heap.size, 2, none⟩ = some (.bool t.null) ∧ w'.cell? ⟨w.heap.size, 3, none⟩ = some (.slice la t.l.length lc) ∧ w'.cell? ⟨w.heap.size, 4, none⟩ = some (.slice ua t.u.length uc) ∧ w'.cell? ⟨wo.heap.size, 0, none⟩ = some (.int .i64 kk) ∧ w'.cell? ⟨wo.heap.size, 1, none⟩ = some (.int .i64 fr) ∧ w'.cell? ⟨wo.heap.size, 2, none⟩ = some (.int .i64 to) ∧ w'.cell? ⟨wo.heap.size, 3, none⟩ = some (.int .i64 nu) ∧ w'.cell? ⟨wo.heap.size, 4, none⟩ = some (.int .i64 (m : Nat)) ∧ w'.cell? ⟨wo.heap.size, 5, none⟩ = some (.int .i64 df) ∧ w'.cell? ⟨wo.heap.size, 6, none⟩ = some (.int .i64 ok) ∧ w'.cell? ⟨wo.heap.size, 7, none⟩ = some (.slice a8 sub.len cap8))
                      (first | exact hS8 | exact hS7 | exact HC.out)
                      (first
                        | (go_at_call 48; refine (spAt t _ j B wA.drew.heap.size wA.drew (by omega) (Nat.le_refl _) HT6.out.1 (by omega)).mono ?_; rintro e w7 ⟨c7, rfl, ht7, hb7⟩; have z7 := hb7.size; have hS7 := keep13c (fun i => hb7.cell (p := ⟨w.heap.size, i, none⟩) (by show w.heap.size < wA.drew.heap.size; omega)) (fun i => hb7.cell (p := ⟨wo.heap.size, i, none⟩) (by show wo.heap.size < wA.drew.heap.size; omega)) HC.out)
                        | (go_at_call 50; refine (US.out c7 w7 ht7).mono ?_; rintro e w8 ⟨rfl, hb8⟩; have z8 := hb8.size; have hS8 := keep13c (fun i => hb8.cell (p := ⟨w.heap.size, i, none⟩) (by show w.heap.size < w7.heap.size; omega)) (fun i => hb8.cell (p := ⟨wo.heap.size, i, none⟩) (by show wo.heap.size < w7.heap.size; omega)) hS7))
                    have hb78 : Below wA.drew.heap.size wA.drew w8 := hb7.trans (hb8.mono z7)
                    have FIN := Lib.hid (And.intro (HO2.out.2.1.stay hb78 (Nat.le_refl _)) (HO2.out.2.2.1.trans (hb78.mono (by omega))))
                    clear hb7 hb8 ht7 hb78
                    go_wp2
                    go_roundw
                    case rel => exact ⟨j + 1, rest, acc, by go_num, rfl, by rw [← HO2.out.2.2.2.2, pOne_usual hus], HN.out.1, HN.out.2.2.2, HN.out.2.2.1, FIN.out.1, FIN.out.2⟩
                    case measure => simp [intOf]; omega
                · rw [pOne_skip htm] at hacc
                  have FIN := Lib.hid (And.intro hacc (And.intro Ln (And.intro hkd2 (And.intro hsb2 (And.intro hownA hbA)))))
                  clear D hTo hF hsubF Ln hsb1 hsb2 hkd2 hownT hownA hbA hKc hacc hto bA bAD hbo h1 h2 h3 h4 h5 h6 h7 h8
                  obtain ⟨-, -, -, -, -, -, -, -, -, hC4, -, -, -⟩ := hC
                  have htm2 : (tg == (m : Int)) = false := by simpa using htm
                  have htm3 : decide (tg = (m : Int)) = false := by simpa using htm
                  go_region
                  go_wp2
                  go_roundw
                  case rel => exact ⟨j + 1, rest, acc, by go_num, rfl, FIN.out.1, FIN.out.2.1, FIN.out.2.2.1, FIN.out.2.2.2.1, FIN.out.2.2.2.2.1, FIN.out.2.2.2.2.2⟩
                  case measure => simp [intOf]; omega
          · have hme : m = kn := by omega
            rw [hme, hKT] at hownK
            rw [hme, hKT]
            obtain ⟨hX6, hbw6, hf6, hU6, ht6, hT6, -, -, -, -, -⟩ := R6.out
            have hqB : Below B w6 wq := hbq.mono hB6
            have hK := spKnownN fs HTAG.out (.slice fa k fcap) B wq.heap.size wq (by omega) (Nat.le_refl _) (hf6.below hqB)
            rw [hkn] at hK
            have UK := spUnknownN kn (by omega) fs (.slice fa k fcap) (.slice ua t.u.length uc) t.u B wq.heap.size wq (by omega) (Nat.le_refl _) (hf6.below hqB) (hU6.below hqB) hK
            rw [hUe] at UK
            have UK := Lib.hid UK
            obtain ⟨t0, t1, t2, t3, t4⟩ := boxT (hT6.below hbq (by omega))
            have HQ := Lib.hid (And.intro hownK (And.intro (hX6.stay hbq (Nat.le_refl _)) (hbw6.trans (hbq.mono (by omega)))))
            clear hownK hbq hX6 hbw6 hf6 hU6 ht6 hT6 hqB hK
            go_wp2_with fail
            refine UK.out.mono ?_
            rintro e w7 ⟨v7, L, rfl, hR7, hby, hLs, hb7⟩
            have z7 := hb7.size
            obtain ⟨va, vcap, rfl⟩ := ownsRow_shape hR7
            have hLU : L.length = U.length := by rw [← hby]; simp [bytesU]
            have hL3 : L.length ≤ 32767 := by omega
            have HX7 := Lib.hid (And.intro (HQ.out.2.1.stay hb7 (Nat.le_refl _)) (HQ.out.2.2.trans (hb7.mono (by omega))))
            have hT7 := Lib.hid (And.intro (HQ.out.1.stay hb7 (Nat.le_refl _)) HQ.out.1)
            have H7 := Lib.hid (And.intro hR7 (And.intro hLs hby))
            clear hR7 hLs hby hb7 UK t0 t1 t2 t3 t4 hLU
            go_wp2_with fail
            go_loopw [10, 11, 102] (fun tv mv i ws => ∃ j : Nat, i = .int .i64 (j : Nat) ∧ mv = .int .i64 ((KT.length + j : Nat)) ∧ j ≤ L.length ∧ Own w6.heap.size ws tv (KT.flatMap kTag ++ (U.take j).flatMap pTag) ∧ Below w6.heap.size w7 ws ∧ (∀ g, (Value.slice va L.length vcap).ownBlock = some g → ws.heap[g]? = w7.heap[g]? ∧ tv.ownBlock ≠ some g))
              (fun _ _ i _ => L.length - (intOf i).toNat)
            case atStart => exact ⟨0, rfl, rfl, Nat.zero_le _, by simpa using hT7.out.1, Below.refl _ _, fun g hg => ⟨rfl, fun e => by have h1 := hT7.out.2.lt g e; have h2 := H7.out.1.lt g hg; omega⟩⟩
            case round =>
              obtain ⟨j, rfl, rfl, hj, hownt, hbs, hkeep⟩ := hrel
              rename World => ws
              have zs := hbs.size
              by_cases hjl : j < L.length
              · obtain ⟨g', cap', heq, hg1, hg2⟩ := ownsRow_nz H7.out.1 (by omega)
                cases heq
                have hLj : L[j]? = some L[j] := List.getElem?_eq_getElem hjl
                obtain ⟨c0, c1⟩ := ownsU_cells H7.out.1 rfl hLj
                obtain ⟨hkey, hx⟩ := H7.out.2.1 _ (List.getElem_mem hjl)
                have hUj : U[j]? = some (L[j].1, L[j].2.2) := by rw [← H7.out.2.2]; unfold bytesU; rw [List.getElem?_map, hLj]; rfl
                obtain ⟨hk1, hk2⟩ := hkeep g' rfl
                have d0 := (World.cell?_of_block (a := ⟨g', j * 2, none⟩) hk1).trans c0
                have d1 := (World.cell?_of_block (a := ⟨g', j * 2 + 1, none⟩) hk1).trans c1
                obtain ⟨ky, hky⟩ : ∃ ky, L[j].1 = ky := ⟨_, rfl⟩
                obtain ⟨sb, hsb⟩ : ∃ sb, L[j].2.2 = sb := ⟨_, rfl⟩
                obtain ⟨xv, hxv⟩ : ∃ xv, L[j].2.1 = xv := ⟨_, rfl⟩
                rw [hky] at d0 hkey hUj
                rw [hsb] at hx hUj
                rw [hxv] at d1 hx
                have hx1 := hx.below (hbs.mono hB6)
                obtain ⟨xa, xcap, rfl, -⟩ := id hx1
                have htk : (U.take (j + 1)).flatMap pTag = (U.take j).flatMap pTag ++ (uv ky ++ uv (whole sb).length ++ whole sb) := by
                  rw [List.take_add_one, hUj, List.flatMap_append]
                  simp only [Option.toList_some, List.flatMap_cons, List.flatMap_nil, List.append_nil, pTag]
                have hkl : ((U.take (j + 1)).flatMap pTag).length ≤ (U.flatMap pTag).length := by
                  conv => rhs; rw [← List.take_append_drop (j + 1) U]
                  rw [List.flatMap_append, List.length_append]
                  omega
                have hwl : (whole sb).length ≤ 32767 := by unfold whole; rw [List.length_take]; omega
                rw [htk] at hkl
                simp only [List.length_append] at hkl
                have hg2s : g' < ws.heap.size := by omega
                have hbw := fun o => (Below.refl ws.heap.size ws).alloc (Nat.le_refl _) o
                have HK := Lib.hid (And.intro hownt (And.intro hbs (And.intro hx1 (And.intro htk (And.intro hk1 hk2)))))
                clear hownt hbs hx hx1 htk c0 c1 hk1 hk2 hkeep hLj hUj hky hsb hxv
                go_wp2_with fail
                obtain ⟨wA, hwA⟩ : ∃ wA, wA = ws.alloc (.cells #[.int .u32 (ky : Int), .slice xa sb.length xcap] 68) := ⟨_, rfl⟩
                have bA : Below ws.heap.size ws wA := by rw [hwA]; exact hbw _
                have y0 : wA.cell? ⟨ws.heap.size, 0, none⟩ = some (.int .u32 (ky : Int)) := by rw [hwA]; exact (Blk.alloc_new ws [.int .u32 (ky : Int), .slice xa sb.length xcap] 68).cell_some (i := 0) rfl
                have y1 : wA.cell? ⟨ws.heap.size, 1, none⟩ = some (.slice xa sb.length xcap) := by rw [hwA]; exact (Blk.alloc_new ws [.int .u32 (ky : Int), .slice xa sb.length xcap] 68).cell_some (i := 1) rfl
                have zA : wA.heap.size = ws.heap.size + 1 := by rw [hwA]; simp
                rw [← hwA]
                clear hwA hbw
                refine (spWhole sb _ w6.heap.size wA ((RL.below HK.out.2.2.1 (bA.mono (by omega))).mono hB6)).mono ?_
                rintro e w' ⟨v', rfl, hv', rfl⟩
                obtain ⟨wa, wc, rfl, -⟩ := id hv'
                have HV := Lib.hid (And.intro hv' (And.intro (HK.out.1.stay bA (Nat.le_refl _)) ((bA.block g' hg2s).trans HK.out.2.2.2.2.1)))
                have hky2 : ((ky : Nat) : Int) ≤ 4294967295 := by omega
                have hwl2 : (((whole sb).length : Nat) : Int) ≤ 32767 := by omega
                clear hv' d0 d1
                go_wp2_with fail
                refine (spUvarint ky hkey wA.heap.size wA (Nat.le_refl _)).mono ?_
                rintro e wB ⟨x1, rfl, ho1, hb1⟩
                have zB := hb1.size
                go_wp2_with (at_builtin; refine halted ?_)
                refine wpl_append_fromZ bt rfl _ _ rfl w6.heap.size _ (HV.out.2.1.stay hb1 (Nat.le_refl _)) (by omega) (uv ky) (Src.ofRL (B := wB.heap.size) Tryz.underlying22 ho1.rl) (by rw [List.length_append]; omega) ?_
                intro v2 w2' hown2 hb2 hz2
                have z2 := hb2.size
                obtain ⟨k1, k2⟩ := hz2 g' (by omega) HK.out.2.2.2.2.2
                have k1 := k1.trans (hb1.block g' (by omega))
                clear ho1 hz2
                have HB2 := Lib.hid (And.intro k1 (And.intro k2 (And.intro hown2 ((hb1.mono (show w6.heap.size ≤ wA.heap.size by omega)).trans hb2))))
                clear k1 k2 hown2 hb1 hb2
                go_wp2_with fail
                refine (spUvarint (whole sb).length (by omega) w2'.heap.size w2' (Nat.le_refl _)).mono ?_
                rintro e wC ⟨x3, rfl, ho3, hb3⟩
                have zC := hb3.size
                go_wp2_with (at_builtin; refine halted ?_)
                refine wpl_append_fromZ bt rfl _ _ rfl w6.heap.size _ (HB2.out.2.2.1.stay hb3 (Nat.le_refl _)) (by omega) (uv (whole sb).length) (Src.ofRL (B := wC.heap.size) Tryz.underlying22 ho3.rl) (by rw [List.length_append, List.length_append]; omega) ?_
                intro v4 w4 hown4 hb4 hz4
                have z4 := hb4.size
                obtain ⟨k3, k4⟩ := hz4 g' (by omega) HB2.out.2.1
                have HB4 := Lib.hid (And.intro (k3.trans ((hb3.block g' (by omega)).trans HB2.out.1)) (And.intro k4 (HB2.out.2.2.2.trans ((hb3.mono (by omega)).trans hb4))))
                clear ho3 hz4 k3 k4 hb3 hb4
                go_wp2_with (at_builtin; refine halted ?_)
                refine wpl_append_fromZ bt rfl _ _ rfl w6.heap.size _ hown4 (by omega) (whole sb) (Src.ofRL (B := w6.heap.size) Tryz.underlying22 (HV.out.1.below HB4.out.2.2)) (by rw [List.length_append, List.length_append, List.length_append]; omega) ?_
                intro v5 w5 hown5 hb5 hz5
                obtain ⟨k5, k6⟩ := hz5 g' (by omega) HB4.out.2.1
                have FIN := Lib.hid (And.intro (show Own w6.heap.size w5 v5 (KT.flatMap kTag ++ (U.take (j + 1)).flatMap pTag) by rw [HK.out.2.2.2.1]; simpa only [List.append_assoc] using hown5)
                  (And.intro (HK.out.2.1.trans ((bA.mono (by omega)).trans (HB4.out.2.2.trans hb5))) (And.intro (k5.trans (HB4.out.1.trans HV.out.2.2)) k6)))
                clear hown5 hown4 hb5 hz5 k5 k6 bA y0 y1 HV HB2 HB4
                go_wp2
                go_roundw
                case rel => exact ⟨j + 1, by go_num, by go_num, by omega, FIN.out.1, FIN.out.2.1, fun g hg => by cases hg; exact FIN.out.2.2⟩
                case measure => simp [intOf]; omega
              · have hjL : j = L.length := by omega
                have hLU : L.length = U.length := by rw [← H7.out.2.2]; simp [bytesU]
                rw [hjL] at hownt ⊢
                rw [hLU, List.take_of_length_le (Nat.le_refl _)] at hownt
                rw [hLU]
                have RQ := Lib.hid (And.intro hownt (And.intro (Own.apart HX7.out.1 (fun g hg => hbs.block g (R6.out.1.lt g hg).2)) (HX7.out.2.trans (hbs.mono (by omega)))))
                obtain ⟨nn, hnn2⟩ : ∃ nn, KT.length + U.length = nn := ⟨_, rfl⟩
                rw [hnn2]
                have hnn3 : nn ≤ 33767 := by omega
                have hnn4 : ((nn : Nat) : Int) ≤ 33767 := by omega
                have E2 := E.out
                rw [hnn2] at E2 hlX
                have E2 := Lib.hid E2
                clear hownt hbs hkeep hLU hnn2 hjL
                go_wp2_with fail
                refine (spUvarint nn (by omega) ws.heap.size ws (Nat.le_refl _)).mono ?_
                rintro e w8 ⟨v8, rfl, hown8, hb8⟩
                have z8 := hb8.size
                go_wp2_with (at_builtin; refine halted ?_)
                refine wpl_append_far bt rfl _ _ rfl (w.heap.size + 1) X (RQ.out.2.1.stay hb8 (Nat.le_refl _)) (by omega) (uv nn) (Src.ofRL (B := w8.heap.size) Tryz.underlying22 hown8.rl) (by omega) ?_
                intro v9 w9 hown9 hb9 hg9
                have ht8 := RQ.out.1.stay hb8 (Nat.le_refl _)
                have ht9 := ht8.apart (w' := w9) (fun g hg => hg9 g (ht8.lt g hg).2 (fun e => by have h1 := R6.out.1.lt g e; have h2 := ht8.lt g hg; omega))
                have z9 := hb9.size
                go_wp2_with (at_builtin; refine halted ?_)
                refine wpl_append_from bt rfl _ _ rfl (w.heap.size + 1) _ hown9 (by omega) (KT.flatMap kTag ++ U.flatMap pTag) (Src.ofRL (B := w9.heap.size) Tryz.underlying22 ht9.rl) (by rw [List.length_append, List.length_append]; omega) ?_
                intro v10 w10 hown10 hb10
                have F := Lib.hid (And.intro (show Own base w10 v10 (pPartT ver true fs t) by
                  rw [E2.out]
                  have h := hown10.mono (show base ≤ w.heap.size + 1 by omega)
                  simpa only [List.append_assoc] using h) (((RQ.out.2.2).trans (hb8.mono (by omega))).trans ((hb9.mono (by omega)).trans (hb10.mono (by omega)))))
                clear hown10 hown9 hown8 hb8 hb9 hb10 hg9 ht8 ht9
                go_wp2
                go_ret
                exact .mk F.out.1 F.out.2
    | cons kk fr to nu tg df ok sub rest =>
      have hlen := L.len
      simp only [PFs.len] at hlen
      have hkn : k < n := by omega
      obtain ⟨p, q, rfl, hp⟩ := hne (by omega)
      have hbwr : Below base w wr := hbw.trans (hbk.mono (by omega))
      obtain ⟨⟨h1, h2, h3, h4, h5, h6, h7⟩, ⟨v8, h8, a8, cap8, rfl, hf8⟩, hrest⟩ := (L.cells p q rfl).below (hbwr.mono hB) hp
      have hsubF : RepF B wr sub (.slice a8 sub.len cap8) := ⟨a8, cap8, rfl, hf8⟩
      obtain ⟨htg, htags, htagr⟩ := L.tags
      have hpw : p < wr.heap.size := by have := hbwr.size; omega
      have hww : w.heap.size + 1 ≤ wr.heap.size := by have := hbk.size; omega
      have hT := boxT (hw2.below hbk (by omega))
      have hF := boxF (Blk.alloc_new wr [.int .i64 kk, .int .i64 fr, .int .i64 to, .int .i64 nu, .int .i64 tg, .int .i64 df, .int .i64 ok, .slice a8 sub.len cap8] 45)
      have hb5 := (Below.refl wr.heap.size wr).alloc (Nat.le_refl _) (.cells #[.int .i64 kk, .int .i64 fr, .int .i64 to, .int .i64 nu, .int .i64 tg, .int .i64 df, .int .i64 ok, .slice a8 sub.len cap8] 45)
      have hs5 : (wr.alloc (.cells #[.int .i64 kk, .int .i64 fr, .int .i64 to, .int .i64 nu, .int .i64 tg, .int .i64 df, .int .i64 ok, .slice a8 sub.len cap8] 45)).heap.size = wr.heap.size + 1 := by simp
      have HS := Lib.hid (spHas kk fr to nu tg df ok (.slice a8 sub.len cap8) ver (wr.heap.size + 1) (wr.alloc (.cells #[.int .i64 kk, .int .i64 fr, .int .i64 to, .int .i64 nu, .int .i64 tg, .int .i64 df, .int .i64 ok, .slice a8 sub.len cap8] 45)) (by omega))
      have Z := Lib.hid (And.intro hsubF (And.intro L.next (And.intro hsub (And.intro hT (And.intro hF (And.intro hb5 (And.intro hs5 hown)))))))
      clear hsubF L hsub hT hF hb5 hs5 htags htagr hrest hne hf hU
      rcases htg with rfl | ⟨g, rfl, hg⟩
      rotate_left
      · rw [pFields_tag] at hX
        obtain ⟨hsubF, Ln, hsub, hT, hF, hb5, hs5, hown⟩ := Z.out
        have hg0 : ¬ ((g : Int) < 0) := by omega
        have hg1 : ((g : Nat) : Int) ≤ 900 := by omega
        have hfin : ∃ k' gs X', Value.int .i64 ((k : Int) + 1) = .int .i64 (k' : Nat) ∧ Own (w.heap.size + 1) (wr.alloc (.cells #[.int .i64 kk, .int .i64 fr, .int .i64 to, .int .i64 nu, .int .i64 (g : Int), .int .i64 df, .int .i64 ok, .slice a8 sub.len cap8] 45)) u9 X' ∧ X' ++ pFields ver flex gs k' t = pFields ver flex fs 0 t ∧ LeftT B w (some ⟨p, q, none⟩) n k' gs ∧ SubsAll gs ∧ Below (w.heap.size + 1) w2 (wr.alloc (.cells #[.int .i64 kk, .int .i64 fr, .int .i64 to, .int .i64 nu, .int .i64 (g : Int), .int .i64 df, .int .i64 ok, .slice a8 sub.len cap8] 45)) :=
          ⟨k + 1, rest, X, rfl, hown.stay hb5 (Nat.le_refl _), hX, Ln, hsub.2, hbk.trans (hb5.mono hww)⟩
        have FIN := Lib.hid hfin
        clear hfin hsubF Ln hsub hT hF hb5 hs5 hown HS
        go_wp2
        go_roundw
        case rel => exact FIN.out
        case measure => simp [intOf]; omega
      cases hhas : pHas fr to ver
      · rw [hhas] at HS
        rw [pFields_skip hhas] at hX
        clear hhas
        go_wp2_with fail
        refine HS.out.mono ?_
        rintro e w6 ⟨rfl, hb6⟩
        obtain ⟨hsubF, Ln, hsub, hT, hF, hb5, hs5, hown⟩ := Z.out
        have hb7 : Below wr.heap.size wr w6 := hb5.trans (hb6.mono (by omega))
        have hfin : ∃ k' gs X', Value.int .i64 ((k : Int) + 1) = .int .i64 (k' : Nat) ∧ Own (w.heap.size + 1) w6 u9 X' ∧ X' ++ pFields ver flex gs k' t = pFields ver flex fs 0 t ∧ LeftT B w (some ⟨p, q, none⟩) n k' gs ∧ SubsAll gs ∧ Below (w.heap.size + 1) w2 w6 :=
          ⟨k + 1, rest, X, rfl, hown.stay hb7 (Nat.le_refl _), hX, Ln, hsub.2, hbk.trans (hb7.mono hww)⟩
        have FIN := Lib.hid hfin
        clear hfin hsubF Ln hsub hT hF hb5 hs5 hown hb6 hb7
        go_wp2
        go_roundw
        case rel => exact FIN.out
        case measure => simp [intOf]; omega
      · rw [hhas] at HS
        rw [pFields_take hhas] at hX
        clear hhas
        go_wp2_with fail
        refine HS.out.mono ?_
        rintro e w6 ⟨rfl, hb6⟩
        obtain ⟨hsubF, Ln, hsub, hT, hF, hb5, hs5, hown⟩ := Z.out
        have hb7 : Below wr.heap.size wr w6 := hb5.trans (hb6.mono (by omega))
        have hs6 : wr.heap.size + 1 ≤ w6.heap.size := by have := hb6.size; omega
        have FC := Lib.hid (spField kk fr to nu (-1) df ok sub ver flex (atT t k) trivial hsub.1)
        have hlX : X.length + (pField ver flex kk nu ok (pPart ver flex sub) (atT t k)).length ≤ lim := by
          have e := congrArg List.length hX
          unfold pPartT at hl
          simp only [List.length_append] at e hl
          omega
        have c : w6.drew.cell? ⟨w.heap.size, 0, none⟩ = some (.int .i64 t.n) ∧ w6.drew.cell? ⟨w.heap.size, 1, none⟩ = some (.slice sa t.s.length sc) ∧ w6.drew.cell? ⟨w.heap.size, 2, none⟩ = some (.bool t.null) ∧
            w6.drew.cell? ⟨w.heap.size, 3, none⟩ = some (.slice la t.l.length lc) ∧ w6.drew.cell? ⟨w.heap.size, 4, none⟩ = some (.slice ua t.u.length uc) ∧
            w6.drew.cell? ⟨wr.heap.size, 0, none⟩ = some (.int .i64 kk) ∧ w6.drew.cell? ⟨wr.heap.size, 1, none⟩ = some (.int .i64 fr) ∧ w6.drew.cell? ⟨wr.heap.size, 2, none⟩ = some (.int .i64 to) ∧ w6.drew.cell? ⟨wr.heap.size, 3, none⟩ = some (.int .i64 nu) ∧
            w6.drew.cell? ⟨wr.heap.size, 4, none⟩ = some (.int .i64 (-1)) ∧ w6.drew.cell? ⟨wr.heap.size, 5, none⟩ = some (.int .i64 df) ∧ w6.drew.cell? ⟨wr.heap.size, 6, none⟩ = some (.int .i64 ok) ∧ w6.drew.cell? ⟨wr.heap.size, 7, none⟩ = some (.slice a8 sub.len cap8) := by
          obtain ⟨t0, t1, t2, t3, t4⟩ := hT
          obtain ⟨f0, f1, f2, f3, f4, f5, f6, f7⟩ := hF
          have hP : ∀ i, w6.cell? ⟨w.heap.size, i, none⟩ = wr.cell? ⟨w.heap.size, i, none⟩ := fun i => hb7.cell (p := ⟨w.heap.size, i, none⟩) (by show w.heap.size < wr.heap.size; omega)
          have hQ := fun i => hb6.cell (p := ⟨wr.heap.size, i, none⟩) (by show wr.heap.size < wr.heap.size + 1; omega)
          exact ⟨(hP 0).trans t0, (hP 1).trans t1, (hP 2).trans t2, (hP 3).trans t3, (hP 4).trans t4, (hQ 0).trans f0, (hQ 1).trans f1, (hQ 2).trans f2, (hQ 3).trans f3, (hQ 4).trans f4, (hQ 5).trans f5, (hQ 6).trans f6, (hQ 7).trans f7⟩
        have D : ∀ n, Below n w6 w6.drew := fun n => (Below.refl n w6).drew
        have HT6 := Lib.hid (And.intro (ht.keep ((hbwr.trans (hb7.mono (by omega))).mono hB |>.trans (D _))) (hsubF.below ((hb7.mono (by omega)).trans (D B))))
        have hown6 := Lib.hid (And.intro ((hown.stay hb7 (Nat.le_refl _)).drew) (hown.lt))
        have hds : w6.drew.heap.size = w6.heap.size := rfl
        have hC := Lib.hid c
        have hB7 := Lib.hid (And.intro hb7 D)
        clear c D HS hT hF hb5 hb6 hb7 hown hsubF
        go_wp2_with fail
        go_region_held3 (fun w' => w'.cell? ⟨w.heap.size, 0, none⟩ = some (.int .i64 t.n) ∧ w'.cell? ⟨w.heap.size, 1, none⟩ = some (.slice sa t.s.length sc) ∧ w'.cell? ⟨w.heap.size, 2, none⟩ = some (.bool t.null) ∧
            w'.cell? ⟨w.heap.size, 3, none⟩ = some (.slice la t.l.length lc) ∧ w'.cell? ⟨w.heap.size, 4, none⟩ = some (.slice ua t.u.length uc) ∧
            w'.cell? ⟨wr.heap.size, 0, none⟩ = some (.int .i64 kk) ∧ w'.cell? ⟨wr.heap.size, 1, none⟩ = some (.int .i64 fr) ∧ w'.cell? ⟨wr.heap.size, 2, none⟩ = some (.int .i64 to) ∧ w'.cell? ⟨wr.heap.size, 3, none⟩ = some (.int .i64 nu) ∧
            w'.cell? ⟨wr.heap.size, 4, none⟩ = some (.int .i64 (-1)) ∧ w'.cell? ⟨wr.heap.size, 5, none⟩ = some (.int .i64 df) ∧ w'.cell? ⟨wr.heap.size, 6, none⟩ = some (.int .i64 ok) ∧ w'.cell? ⟨wr.heap.size, 7, none⟩ = some (.slice a8 sub.len cap8))
          (first
            | exact hC.out | exact hS7 | exact hS8 | exact hS9)
          (first
            | (go_at_call 48; refine (spAt t _ k B w6.drew.heap.size w6.drew (by omega) (Nat.le_refl _) HT6.out.1 (by omega)).mono ?_; rintro e w7 ⟨c7, rfl, ht7, hb8⟩; have hS7 := keep13c (fun i => hb8.cell (p := ⟨w.heap.size, i, none⟩) (by show w.heap.size < w6.heap.size; omega)) (fun i => hb8.cell (p := ⟨wr.heap.size, i, none⟩) (by show wr.heap.size < w6.heap.size; omega)) hC.out)
            | (go_at_call 47; refine (FC.out B w7.heap.size w7 _ c7 (by have := hb8.size; omega) (Nat.le_refl _) (HT6.out.2.below (hb8.mono (by omega))) ht7 (by omega)).mono ?_; rintro e w8 ⟨v8', rfl, hown8, hb9⟩; have hS8 := keep13c (fun i => hb9.cell (p := ⟨w.heap.size, i, none⟩) (by have := hb8.size; show w.heap.size < w7.heap.size; omega)) (fun i => hb9.cell (p := ⟨wr.heap.size, i, none⟩) (by have := hb8.size; show wr.heap.size < w7.heap.size; omega)) hS7)
            | (refine step_append_far bt rfl (.tmp 36) (.tmp 43) rfl (w.heap.size + 1) X ((hown6.out.1.stay hb8 (Nat.le_refl _)).stay hb9 (Nat.le_refl _)) (by have := hb8.size; have := hb9.size; omega) _ (Src.ofRL (B := w8.heap.size) Tryz.underlying22 (hown8.rl)) hlX ?_; intro v9 w9 hown9 hb10 hg10; have hS9 := keep13c (w := w8) (w' := w9) (p := w.heap.size) (b := wr.heap.size) (fun i => hb10.cell (p := ⟨w.heap.size, i, none⟩) (by show w.heap.size < w.heap.size + 1; omega)) (by have z8 := hb8.size; have z9 := hb9.size; intro i; refine World.cell?_of_block (a := ⟨wr.heap.size, i, none⟩) ?_; refine hg10 wr.heap.size (by omega) ?_; intro e; exact Nat.lt_irrefl _ (hown6.out.2 _ e).2) hS8))
        have hbfin : Below (w.heap.size + 1) wr w9 := (hB7.out.1.mono hww).trans ((hB7.out.2 _).trans ((hb8.mono (by omega)).trans ((hb9.mono (by have := hb8.size; omega)).trans hb10)))
        have hfin : ∃ k' gs X', Value.int .i64 ((k : Int) + 1) = .int .i64 (k' : Nat) ∧ Own (w.heap.size + 1) w9 v9 X' ∧ X' ++ pFields ver flex gs k' t = pFields ver flex fs 0 t ∧ LeftT B w (some ⟨p, q, none⟩) n k' gs ∧ SubsAll gs ∧ Below (w.heap.size + 1) w2 w9 :=
          ⟨k + 1, rest, _, rfl, hown9, by rw [List.append_assoc]; exact hX, Ln, hsub.2, hbk.trans hbfin⟩
        have FIN := Lib.hid hfin
        clear hfin Ln hsub hbfin hown9 hb10 hg10 hb8 hb9 hown8
        go_wp2
        go_roundw
        case rel => exact FIN.out
        case measure => simp [intOf]; omega
end Go.Proofs.YtmpilpgabelmiaaGreatDoor

/- The reference's Write of a message whose own fields have tags. -/
namespace Go.Proofs.YtmpilpgabelmiaaGreatDoor
open Go Go.RowKit
set_option linter.unusedVariables false

/-- What lies below a message's own fields has no tags. -/
theorem subsAllT : ∀ fs : PFs, fs.tagOK → fs.noOpt → SubsAll fs
  | .nil, _, _ => trivial
  | .cons _ _ _ _ _ _ _ sub rest, h, h' => ⟨partAll sub h.2.1 h'.2.1, subsAllT rest h.2.2 h'.2.2⟩
set_option maxRecDepth 100000 in
set_option maxHeartbeats 1600000 in
theorem spWriteT (fs : PFs) (htag : fs.tagOK) (hkind : fs.kindOK) (hsub : SubsAll fs) (ver fl : Int) (t : Tree) (flex : Bool)
    (hlen0 : (pKn ver true fs fs.known t).length ≤ 1000) (hcont : ∀ x ∈ pKn ver true fs fs.known t, x.2.length ≤ 4294967295) (hfl : flex = (decide (0 ≤ fl) && decide (fl ≤ ver))) (B base : Nat) (w : World) (fv : Value) (c : List Value) (hB : B ≤ base) (hb : base ≤ w.heap.size)
    (hf : RepF B w fs fv) (ht : RepT B w c t) (hl : (pPartT ver flex fs t).length ≤ lim) :
    Gives Tryz.prog 11 #[.agg #[fv, .int .i64 fl], .int .i64 ver, .agg c.toArray] w base (pPartT ver flex fs t) := by
  obtain ⟨sv, lv, uv, rfl, -, ⟨sa, sc, rfl, -⟩, ⟨la, lc, lf, rfl, -⟩, ⟨ua, uc, rfl, -⟩⟩ := ht.parts
  obtain ⟨fa, fcap, rfl, -⟩ := id hf
  have hb1 := fun o => (Below.refl base w).alloc hb o
  have hb2 := fun o o' => (hb1 o).alloc (Nat.le_trans hb (by simp)) o'
  have P := Lib.hid (fun w' (h : Below base w w') => partOfT fs htag hkind hsub ver flex t hlen0 hcont B base w' (.slice fa fs.len fcap) _ hB (Nat.le_trans hb h.size) (hf.below (h.mono hB)) (ht.keep (h.mono hB)) hl)
  clear hf ht hl
  by_cases h0 : 0 ≤ fl <;> by_cases h1 : fl ≤ ver <;> simp [h0, h1] at hfl <;> subst hfl <;>
  · go_enter Tryz.func11, Tryz.ntmps11
    go_wp2_with fail
    refine (P.out _ (hb2 _ _)).mono ?_
    rintro e w' ⟨v', rfl, hown, hbel⟩
    go_wp2
    go_ret
    exact .mk hown ((hb2 _ _).trans hbel)
end Go.Proofs.YtmpilpgabelmiaaGreatDoor

/- How long are known tags? (Numbers.) -/
namespace Go.Proofs.YtmpilpgabelmiaaGreatDoor
open Go Go.RowKit
set_option linter.unusedVariables false

/-- Known tags' fields are numbers. -/
def PFs.numTags : PFs → Bool
  | .nil => true
  | .cons k _ _ _ tg _ _ _ rest => (decide (tg < 0) || (decide (1 ≤ k) && decide (k ≤ 6))) && rest.numTags
theorem pField_num {ver : Int} {flex : Bool} {k nu ok : Int} {pp : Tree → List UInt8} {t : Tree} (h0 : 1 ≤ k) (h1 : k ≤ 6) : (pField ver flex k nu ok pp t).length ≤ 8 := by
  have hk : k = 1 ∨ k = 2 ∨ k = 3 ∨ k = 4 ∨ k = 5 ∨ k = 6 := by omega
  rcases hk with rfl | rfl | rfl | rfl | rfl | rfl <;> simp [pField, pVal] <;> exact fixed_len _ _
theorem pOne_num {ver : Int} {flex : Bool} {k : Nat} {t : Tree} : ∀ {fs : PFs} {i : Nat}, fs.numTags = true → ∀ x ∈ pOne ver flex k fs i t, x.2.length ≤ 8
  | .nil, i, h, x, hx => by cases hx
  | .cons kk fr to nu tg df ok sub rest, i, h, x, hx => by
    simp only [PFs.numTags, Bool.and_eq_true, Bool.or_eq_true, decide_eq_true_eq] at h
    simp only [pOne, List.mem_append] at hx
    rcases hx with hx | hx
    · split at hx
      · rename_i hc
        simp only [List.mem_cons, List.not_mem_nil, or_false] at hx
        subst hx
        rcases h.1 with h1 | h1
        · omega
        · exact pField_num h1.1 h1.2
      · cases hx
    · exact pOne_num h.2 x hx
theorem pOne_len {ver : Int} {flex : Bool} {k : Nat} {t : Tree} : ∀ {fs : PFs} {i : Nat}, (pOne ver flex k fs i t).length ≤ fs.len
  | .nil, i => Nat.zero_le _
  | .cons kk fr to nu tg df ok sub rest, i => by
    have := pOne_len (ver := ver) (flex := flex) (k := k) (t := t) (fs := rest) (i := i + 1)
    simp only [pOne, List.length_append, PFs.len]
    split <;> simp <;> omega
theorem pKn_len {ver : Int} {flex : Bool} {fs : PFs} {t : Tree} : ∀ n, (pKn ver flex fs n t).length ≤ n * fs.len
  | 0 => by simp [pKn]
  | n + 1 => by
    have h1 := pKn_len (ver := ver) (flex := flex) (fs := fs) (t := t) n
    have h2 := pOne_len (ver := ver) (flex := flex) (k := n) (t := t) (fs := fs) (i := 0)
    rw [pKn_succ, List.length_append, Nat.add_mul]
    omega
theorem pKn_num {ver : Int} {flex : Bool} {fs : PFs} {t : Tree} {n : Nat} (h : fs.numTags = true) : ∀ x ∈ pKn ver flex fs n t, x.2.length ≤ 8 := by
  intro x hx
  obtain ⟨k, -, hk⟩ := List.mem_flatMap.1 hx
  exact pOne_num h x hk
theorem pTailT_max (ver : Int) (flex : Bool) (fs : PFs) (t : Tree) (h : fs.numTags = true) : (pTailT ver flex fs t).length ≤ tgMax flex + fs.known * fs.len * 28 := by
  cases flex
  · simp [pTailT]
  · have h1 := uv_len10 ((pKn ver true fs fs.known t).length + (unkN fs.known t.u).length)
    have h2 : ((pKn ver true fs fs.known t).flatMap kTag).length ≤ (pKn ver true fs fs.known t).length * 28 := flatMap_le fun x hx => by
      have := pKn_num h x hx
      have := uv_len10 x.1
      have := uv_len10 x.2.length
      simp only [kTag, List.length_append]
      omega
    have h3 : ((unkN fs.known t.u).flatMap pTag).length ≤ (unkN fs.known t.u).length * 32787 := flatMap_le fun x _ => by
      have h4 := pTag_len x
      have h5 := (whole_le x.2).1
      omega
    have h4 := Nat.mul_le_mul_right 28 (pKn_len (ver := ver) (flex := true) (fs := fs) (t := t) fs.known)
    have h5 := Nat.mul_le_mul_right 32787 (unkN_len fs.known t.u)
    simp only [pTailT, tgMax, if_true, List.length_append]
    omega
theorem pPartT_max (ver : Int) (flex : Bool) (fs : PFs) (t : Tree) (h : fs.numTags = true) : (pPartT ver flex fs t).length ≤ mx flex fs + tgMax flex + fs.known * fs.len * 28 := by
  have h1 := pFields_max ver flex fs 0 t
  have h2 := pTailT_max ver flex fs t h
  simp only [pPartT, List.length_append]
  omega
end Go.Proofs.YtmpilpgabelmiaaGreatDoor

/- What the reference writes of a message with tags is what 'ap' writes of a value that can be told. No program in sight. -/
namespace Go.Proofs.YtmpilpgabelmiaaGreatDoor
set_option linter.unusedVariables false

/-- What a message's tree says, as a value; kN: how many tags are known. -/
def gvM (ver : Int) (flex : Bool) (kN : Nat) : Sch → PFs → Nat → Tree → GV
  | .cons _ _ _ f rest, .cons _ _ _ nu _ _ _ sub prest, i, t => .cons (gvS ver flex f nu sub 0 (atT t i)) (gvM ver flex kN rest prest (i + 1) t)
  | .ktag _ d f rest, .cons _ _ _ nu _ _ _ sub prest, i, t => .cons (if flex then gvS ver flex f nu sub 0 (atT t i) else dfl f d) (gvM ver flex kN rest prest (i + 1) t)
  | .tags _, _, _, t => .tags (if flex then (unkN kN t.u).map fun u => (u.1, whole u.2) else [])
  | _, _, _, _ => .unit
/-- Do the reference and the code agree on what is as by default? -/
def agU (k nu df : Int) : Sch → Int → Bool
  | .leaf .i16, d => decide (k = 2) && decide (df = d) && decide (-32768 ≤ d) && decide (d ≤ 32767)
  | .leaf .i64, d => decide (k = 4) && decide (df = d) && decide (-9223372036854775808 ≤ d) && decide (d ≤ 9223372036854775807)
  | .list none _ _, _ => decide (k = 11) && decide (nu < 0)
  | _, _ => false
/-- Do they agree on the known tags, from number m on? -/
def agT (ver : Int) (flex : Bool) : Sch → PFs → Nat → Bool
  | .ktag _ d f rest, .cons k _ _ nu tg df ok sub prest, m => decide (tg = (m : Int)) && agU k nu df f d && agree ver flex f true k nu ok sub && agT ver flex rest prest (m + 1)
  | .tags _, .nil, _ => true
  | _, _, _ => false
/-- Do they agree on a message? -/
def agM (ver : Int) (flex : Bool) : Sch → PFs → Bool
  | .cons _ lo hi f rest, .cons k fr to nu tg _ ok sub prest => decide (tg < 0) && (pHas fr to ver == hasV lo hi ver) && (!hasV lo hi ver || agree ver flex f true k nu ok sub) && agM ver flex rest prest
  | .ktag off d f rest, fs => agT ver flex (.ktag off d f rest) fs 0
  | _, _ => false
/-- The known tags of the end of a list of fields. -/
def endT (ver : Int) : Sch → PFs → Nat → Nat → Tree → List (Nat × List UInt8)
  | .ktag _ d f rest, .cons k _ _ nu _ df ok sub prest, m, i, t => (if usualT k df (atT t i) = false then [(m, pField ver true k nu ok (pPart ver true sub) (atT t i))] else []) ++ endT ver rest prest (m + 1) (i + 1) t
  | _, _, _, _, _ => []

theorem be16_inj {a b : Int} (ha : -32768 ≤ a ∧ a < 32768) (hb : -32768 ≤ b ∧ b < 32768) (h : be16 a = be16 b) : a = b := by
  have h1 := beNat16 a
  have h2 := beNat16 b
  rw [h] at h1
  omega
theorem be64_inj {a b : Int} (ha : -9223372036854775808 ≤ a ∧ a < 9223372036854775808) (hb : -9223372036854775808 ≤ b ∧ b < 9223372036854775808) (h : be64 a = be64 b) : a = b := by
  have h1 := beNat64 a
  have h2 := beNat64 b
  rw [h] at h1
  omega
/-- As by default: the same on both sides. -/
theorem ag_usual {ver : Int} {k nu df ok d : Int} {f : Sch} {sub : PFs} (h : agU k nu df f d = true) (t : Tree) : usual f d (gvS ver true f nu sub 0 t) = usualT k df t := by
  cases f with
  | leaf lf =>
    cases lf <;> simp only [agU, Bool.and_eq_true, decide_eq_true_eq] at h <;> try exact absurd h (by decide)
    · obtain ⟨⟨⟨rfl, rfl⟩, h1⟩, h2⟩ := h
      have hs := sg_bounds (m := 32768) (by omega) t.n
      have e : (fixed t.n (pWidth 2) = fixed df (pWidth 2)) ↔ sg 32768 t.n = df := by
        simp only [pWidth, fixed]
        constructor
        · intro h
          simp at h
          exact be16_inj hs ⟨h1, by omega⟩ (by rw [be_sg16]; exact h)
        · intro h
          rw [← h]
          simp [be_sg16]
      simp only [usual, gvS, gvLeaf, usualT]
      rw [if_neg (by omega)]
      by_cases hd : sg 32768 t.n = df
      · rw [decide_eq_true (e.2 hd), hd]; simp
      · rw [decide_eq_false (fun h => hd (e.1 h))]
        simpa using hd
    · obtain ⟨⟨⟨rfl, rfl⟩, h1⟩, h2⟩ := h
      have hs := sg_bounds (m := 9223372036854775808) (by omega) t.n
      have e : (fixed t.n (pWidth 4) = fixed df (pWidth 4)) ↔ sg 9223372036854775808 t.n = df := by
        simp only [pWidth, fixed]
        constructor
        · intro h
          simp at h
          exact be64_inj hs ⟨h1, by omega⟩ (by rw [be_sg64]; exact h)
        · intro h
          rw [← h]
          simp [be_sg64]
      simp only [usual, gvS, gvLeaf, usualT]
      rw [if_neg (by omega)]
      by_cases hd : sg 9223372036854775808 t.n = df
      · rw [decide_eq_true (e.2 hd), hd]; simp
      · rw [decide_eq_false (fun h => hd (e.1 h))]
        simpa using hd
  | list nul z e =>
    cases nul <;> simp only [agU, Bool.and_eq_true, decide_eq_true_eq] at h <;> try exact absurd h (by decide)
    obtain ⟨rfl, h1⟩ := h
    have hp : pNull nu ver t = false := pNull_nulV (by unfold nulV; simp; omega)
    simp only [gvS, hp, Bool.false_eq_true, if_false, usual, usualT, if_true]
    cases t.l <;> simp
  | _ => simp [agU] at h
theorem ag_knd {k nu df d : Int} {f : Sch} (h : agU k nu df f d = true) : knd f d = true := by
  cases f with
  | leaf lf =>
    cases lf <;> simp only [agU, Bool.and_eq_true, decide_eq_true_eq] at h <;> try exact absurd h (by decide)
    · simp [knd, h.1.2, h.2]
    · simp [knd, h.1.2, h.2]
  | list nul z e => cases nul <;> simp [agU] at h; rfl
  | _ => simp [agU] at h
theorem pFields_tagged {ver : Int} {flex : Bool} : ∀ {s : Sch} {fs : PFs} {m i : Nat} {t : Tree}, agT ver flex s fs m = true → pFields ver flex fs i t = []
  | .ktag _ d f rest, .cons k fr to nu tg df ok sub prest, m, i, t, h => by
    simp only [agT, Bool.and_eq_true, decide_eq_true_eq] at h
    have htg : ¬ tg < 0 := by omega
    simp only [pFields, decide_eq_false htg, Bool.false_and, Bool.false_eq_true, if_false, List.nil_append]
    exact pFields_tagged h.2
  | .tags _, .nil, _, _, _, _ => rfl
  | .tags _, .cons .., _, _, _, h => by cases h
  | .ktag .., .nil, _, _, _, h => by cases h
  | .leaf _, _, _, _, _, h => by cases h
  | .list _ _ _, _, _, _, _, h => by cases h
  | .opt _, _, _, _, _, h => by cases h
  | .done, _, _, _, _, h => by cases h
  | .cons .., _, _, _, _, h => by cases h
theorem pOne_below {ver : Int} {flex flex' : Bool} {k : Nat} : ∀ {s : Sch} {fs : PFs} {m i : Nat} {t : Tree}, agT ver flex s fs m = true → k < m → pOne ver flex' k fs i t = []
  | .ktag _ d f rest, .cons kk fr to nu tg df ok sub prest, m, i, t, h, hk => by
    simp only [agT, Bool.and_eq_true, decide_eq_true_eq] at h
    have htg : ¬ (tg = (k : Int) ∧ usualT kk df (atT t i) = false) := by omega
    simp only [pOne, if_neg htg, List.nil_append]
    exact pOne_below h.2 (by omega)
  | .tags _, .nil, _, _, _, _, _ => rfl
  | .tags _, .cons .., _, _, _, h, _ => by cases h
  | .ktag .., .nil, _, _, _, h, _ => by cases h
  | .leaf _, _, _, _, _, h, _ => by cases h
  | .list _ _ _, _, _, _, _, h, _ => by cases h
  | .opt _, _, _, _, _, h, _ => by cases h
  | .done, _, _, _, _, h, _ => by cases h
  | .cons .., _, _, _, _, h, _ => by cases h
def lenK : Sch → Nat
  | .ktag _ _ _ rest => lenK rest + 1
  | _ => 0
theorem lenK_chain : ∀ s : Sch, isChain s = true → lenK s = (chainL s).length
  | .ktag _ _ _ rest, h => by simp only [lenK, chainL, List.length_cons, lenK_chain rest h]
  | .tags _, _ => rfl
  | .leaf _, h => by cases h
  | .list _ _ _, h => by cases h
  | .opt _, h => by cases h
  | .done, h => by cases h
  | .cons .., h => by cases h
theorem agT_chain {ver : Int} {flex : Bool} : ∀ {s : Sch} {fs : PFs} {m : Nat}, agT ver flex s fs m = true → isChain s = true
  | .ktag _ d f rest, .cons .., m, h => by
    simp only [agT, Bool.and_eq_true, decide_eq_true_eq] at h
    exact agT_chain (s := rest) h.2
  | .tags _, .nil, _, _ => rfl
  | .tags _, .cons .., _, h => by cases h
  | .ktag .., .nil, _, h => by cases h
  | .leaf _, _, _, h => by cases h
  | .list _ _ _, _, _, h => by cases h
  | .opt _, _, _, h => by cases h
  | .done, _, _, h => by cases h
  | .cons .., _, _, h => by cases h
/-- The tags, asked for one by one, come in the fields' order. -/
theorem pOne_all {ver : Int} {flex : Bool} : ∀ {s : Sch} {fs : PFs} {m i : Nat} {t : Tree}, agT ver flex s fs m = true → (List.range' m (lenK s)).flatMap (fun k => pOne ver true k fs i t) = endT ver s fs m i t
  | .ktag off d f rest, .cons kk fr to nu tg df ok sub prest, m, i, t, h => by
    have h0 := h
    simp only [agT, Bool.and_eq_true, decide_eq_true_eq] at h
    obtain ⟨⟨⟨rfl, h2⟩, h3⟩, h4⟩ := h
    have ih := pOne_all (i := i + 1) (t := t) h4
    simp only [lenK, List.range'_succ, List.flatMap_cons]
    have e1 : pOne ver true m (.cons kk fr to nu (m : Int) df ok sub prest) i t = (if usualT kk df (atT t i) = false then [(m, pField ver true kk nu ok (pPart ver true sub) (atT t i))] else []) := by
      simp only [pOne, true_and]
      rw [pOne_below h4 (by omega), List.append_nil]
    rw [e1]
    simp only [endT]
    congr 1
    rw [← ih]
    refine flatMap_same fun k hk => ?_
    have hk' := (List.mem_range'_1.1 hk).1
    have hne : ¬ (((m : Nat) : Int) = (k : Int) ∧ usualT kk df (atT t i) = false) := by omega
    simp only [pOne, if_neg hne, List.nil_append]
  | .tags _, .nil, _, _, _, _ => rfl
  | .tags _, .cons .., _, _, _, h => by cases h
  | .ktag .., .nil, _, _, _, h => by cases h
  | .leaf _, _, _, _, _, h => by cases h
  | .list _ _ _, _, _, _, _, h => by cases h
  | .opt _, _, _, _, _, h => by cases h
  | .done, _, _, _, _, h => by cases h
  | .cons .., _, _, _, _, h => by cases h
theorem known_agT {ver : Int} {flex : Bool} : ∀ {s : Sch} {fs : PFs} {m : Nat}, agT ver flex s fs m = true → fs.known = if lenK s = 0 then 0 else m + lenK s
  | .ktag off d f rest, .cons kk fr to nu tg df ok sub prest, m, h => by
    simp only [agT, Bool.and_eq_true, decide_eq_true_eq] at h
    obtain ⟨⟨⟨rfl, h2⟩, h3⟩, h4⟩ := h
    have ih := known_agT h4
    simp only [PFs.known, ih, lenK]
    rw [if_pos (by omega), Int.toNat_natCast]
    by_cases hz : lenK rest = 0
    · simp [hz]
    · simp [hz]
      omega
  | .tags _, .nil, _, _ => rfl
  | .tags _, .cons .., _, h => by cases h
  | .ktag .., .nil, _, h => by cases h
  | .leaf _, _, _, h => by cases h
  | .list _ _ _, _, _, h => by cases h
  | .opt _, _, _, h => by cases h
  | .done, _, _, h => by cases h
  | .cons .., _, _, h => by cases h
/-- A known tag's field, on both sides. -/
theorem ag_field {ver : Int} {k nu ok : Int} {f : Sch} {sub : PFs} (h : agree ver true f true k nu ok sub = true) (t : Tree) : pField ver true k nu ok (pPart ver true sub) t = ap ver true f (gvS ver true f nu sub 0 t) :=
  (gv_ap ver true f true k nu ok sub h).1 rfl t
theorem kt_end {ver : Int} {kN : Nat} : ∀ {s : Sch} {fs : PFs} {m i : Nat} {t : Tree}, agT ver true s fs m = true →
    kt ver true s m (gvM ver true kN s fs i t) = endT ver s fs m i t ++ (unkN kN t.u).map fun u => (u.1, whole u.2)
  | .ktag off d f rest, .cons kk fr to nu tg df ok sub prest, m, i, t, h => by
    simp only [agT, Bool.and_eq_true, decide_eq_true_eq] at h
    obtain ⟨⟨⟨rfl, h2⟩, h3⟩, h4⟩ := h
    simp only [gvM, if_true, kt, endT, kt_end h4, ag_usual (ver := ver) (ok := ok) (sub := sub) h2 (atT t i), ag_field h3, List.append_assoc]
    congr 1
    cases usualT kk df (atT t i) <;> simp
  | .tags _, .nil, _, _, _, _ => by simp [kt, gvM, endT]
  | .tags _, .cons .., _, _, _, h => by cases h
  | .ktag .., .nil, _, _, _, h => by cases h
  | .leaf _, _, _, _, _, h => by cases h
  | .list _ _ _, _, _, _, _, h => by cases h
  | .opt _, _, _, _, _, h => by cases h
  | .done, _, _, _, _, h => by cases h
  | .cons .., _, _, _, _, h => by cases h
theorem kTag_ap (l : List (Nat × List UInt8)) : l.flatMap kTag = apTags l := rfl
theorem pTag_ap (l : List (Nat × List UInt8)) : l.flatMap pTag = apTags (l.map fun u => (u.1, whole u.2)) := by
  unfold apTags
  rw [List.flatMap_map]
  rfl
/-- What is written of a message's end. -/
theorem tail_ktag {ver : Int} {flex : Bool} {off : Nat} {d : Int} {f rest : Sch} {fs gs : PFs} {i : Nat} {t : Tree} (h : agT ver flex (.ktag off d f rest) gs 0 = true) (hk : fs.known = lenK (.ktag off d f rest)) (hone : ∀ k, pOne ver true k fs 0 t = pOne ver true k gs i t) :
    pTailT ver flex fs t = ap ver flex (.ktag off d f rest) (gvM ver flex fs.known (.ktag off d f rest) gs i t) := by
  cases gs with
  | nil => cases h
  | cons kk fr to nu tg df ok sub prest =>
    cases flex
    · simp [pTailT, gvM, ap]
    · have hkt := kt_end (kN := fs.known) (i := i) (t := t) h
      have e0 : pKn ver true fs fs.known t = endT ver (.ktag off d f rest) (.cons kk fr to nu tg df ok sub prest) 0 i t := by
        unfold pKn
        rw [hk, List.range_eq_range', flatMap_same fun k _ => hone k]
        exact pOne_all h
      have e1 : ap ver true (.ktag off d f rest) (gvM ver true fs.known (.ktag off d f rest) (.cons kk fr to nu tg df ok sub prest) i t) = kOut (kt ver true (.ktag off d f rest) 0 (gvM ver true fs.known (.ktag off d f rest) (.cons kk fr to nu tg df ok sub prest) i t)) := by
        simp only [gvM, if_true, ap, kt]
      rw [e1, hkt]
      unfold pTailT kOut
      simp only [if_true, e0, kTag_ap, pTag_ap]
      rw [List.length_append, List.length_map]
      unfold apTags
      rw [List.flatMap_append, List.append_assoc]
end Go.Proofs.YtmpilpgabelmiaaGreatDoor
