/- The reference's Normal: what a text is without dots, underscores, dashes, blanks at the ends, its letters small. -/
import Derived.Test.YtpjoglnopfmjfaaDoorNx
namespace Go.Proofs.YtpjoglnopfmjfaaDoor
open Go Go.RowKit

theorem isSpN_fin : ∀ i : Fin 256, Go.Lib.isSp (UInt8.ofNat i.val) = (decide ((i.val : Int) = 32) || (decide (9 ≤ (i.val : Int)) && decide ((i.val : Int) ≤ 13))) := by decide +kernel
theorem isSpN (b : UInt8) : Go.Lib.isSp b = (decide ((b.toNat : Int) = 32) || (decide (9 ≤ (b.toNat : Int)) && decide ((b.toNat : Int) ≤ 13))) := by
  have h := isSpN_fin ⟨b.toNat, b.toNat_lt⟩
  simpa using h
theorem blank (b : UInt8) (w : World) : Calls Tryd.prog 24 #[.int .u8 (b.toNat : Nat)] w fun e w' => e = .returned (.bool (Go.Lib.isSp b)) ∧ w' = w := by
  have hb : b.toNat < 256 := b.toNat_lt
  go_enter Tryd.func24, Tryd.ntmps24
  rw [isSpN]
  clear hb
  go_wp2
  all_goals
    go_ret
    refine ⟨?_, rfl⟩
    first
      | (simp_all; done)
      | (rename_i h1 h2; have e1 : decide (9 ≤ (b.toNat : Int)) = false := by simp; omega
         rw [e1]; simp; omega)

/-- What the first loop has made of the first octets. -/
def firstS (l : List UInt8) : List UInt8 := (l.map Go.Lib.lowerB).filter keepB
theorem firstS_snoc (l : List UInt8) (b : UInt8) : firstS (l ++ [b]) = firstS l ++ if keepB (Go.Lib.lowerB b) then [Go.Lib.lowerB b] else [] := by
  unfold firstS
  rw [List.map_append, List.filter_append]
  congr 1
  simp only [List.map_cons, List.map_nil, List.filter_cons, List.filter_nil]

theorem lowerB_fin : ∀ i : Fin 256, (Go.Lib.lowerB (UInt8.ofNat i.val)).toNat = if 65 ≤ i.val ∧ i.val ≤ 90 then i.val + 32 else i.val := by decide +kernel
theorem lowerB_nat (b : UInt8) : (Go.Lib.lowerB b).toNat = if 65 ≤ b.toNat ∧ b.toNat ≤ 90 then b.toNat + 32 else b.toNat := by
  have h := lowerB_fin ⟨b.toNat, b.toNat_lt⟩
  simpa using h
theorem keepB_fin : ∀ i : Fin 256, keepB (UInt8.ofNat i.val) = decide (i.val ≠ 46 ∧ i.val ≠ 95 ∧ i.val ≠ 45) := by decide +kernel
theorem keepB_nat (b : UInt8) : keepB b = decide (b.toNat ≠ 46 ∧ b.toNat ≠ 95 ∧ b.toNat ≠ 45) := by
  have h := keepB_fin ⟨b.toNat, b.toNat_lt⟩
  simpa using h
theorem firstS_len (l : List UInt8) : (firstS l).length ≤ l.length := by
  unfold firstS
  exact Nat.le_trans (List.length_filter_le _ _) (by simp)
theorem firstS_take {l : List UInt8} {k : Nat} {b : UInt8} (h : l[k]? = some b) : firstS (l.take (k + 1)) = firstS (l.take k) ++ if keepB (Go.Lib.lowerB b) then [Go.Lib.lowerB b] else [] := by
  rw [List.take_add_one, h]
  exact firstS_snoc _ _
theorem firstS_keep {l : List UInt8} {k z y : Nat} {b : UInt8} (h : l[k]? = some b) (hz : b.toNat = z) (hy : y = if 65 ≤ z ∧ z ≤ 90 then z + 32 else z) (hn : y ≠ 46 ∧ y ≠ 95 ∧ y ≠ 45) : firstS (l.take (k + 1)) = firstS (l.take k) ++ [Go.Lib.lowerB b] ∧ ∀ yi : Int, yi = y → [Value.int .u8 yi] = [Go.Lib.lowerB b].map byteV := by
  have e : (Go.Lib.lowerB b).toNat = y := by rw [lowerB_nat, hz, hy]
  rw [firstS_take h, keepB_nat, e, if_pos (by simpa using hn)]
  refine ⟨rfl, fun yi hyi => ?_⟩
  subst hyi
  unfold byteV
  simp only [List.map_cons, List.map_nil, e]
theorem firstS_drop {l : List UInt8} {k z : Nat} {b : UInt8} (h : l[k]? = some b) (hz : b.toNat = z) (hn : z = 46 ∨ z = 95 ∨ z = 45) : firstS (l.take (k + 1)) = firstS (l.take k) := by
  have e : (Go.Lib.lowerB b).toNat = z := by rw [lowerB_nat, hz, if_neg (by omega)]
  rw [firstS_take h, keepB_nat, e, if_neg (by simp; omega), List.append_nil]

theorem rb_tail {w : World} {b o q cap : Nat} {x : UInt8} {r : List UInt8} (h : RB [] w (.slice (some ⟨b, o, none⟩) (x :: r).length cap) (x :: r)) (hq : (x :: r).length = q) :
    RB [] w (.slice (if cap = 1 then some ⟨b, o, none⟩ else some ⟨b, o + 1, none⟩) (q - 1) (cap - 1)) r := by
  obtain ⟨a', cap', e, h1, h2, h3⟩ := h
  cases e
  obtain ⟨b', o', e, -, hc⟩ := h3 (by simp)
  cases e
  have hq1 : q - 1 = r.length := by rw [← hq]; simp
  rw [hq1]
  simp only [List.length_cons] at h1
  refine ⟨_, cap - 1, rfl, by omega, by omega, fun hne => ?_⟩
  have h4 : ¬ cap = 1 := fun e => hne (List.eq_nil_of_length_eq_zero (by omega))
  rw [if_neg h4]
  refine ⟨b, o + 1, rfl, by simp, fun i u hi => ?_⟩
  have := hc (i + 1) u (by simpa using hi)
  rwa [Nat.add_assoc, Nat.add_comm 1 i]
theorem rb_init {w : World} {b o q cap : Nat} {x : UInt8} {r : List UInt8} (h : RB [] w (.slice (some ⟨b, o, none⟩) (r ++ [x]).length cap) (r ++ [x])) (hq : r.length = q) :
    RB [] w (.slice (some ⟨b, o, none⟩) q cap) r := by
  obtain ⟨a', cap', e, h1, h2, h3⟩ := h
  cases e
  obtain ⟨b', o', e, -, hc⟩ := h3 (by simp)
  cases e
  subst hq
  rw [List.length_append] at h1
  refine ⟨_, cap, rfl, by omega, h2, fun hne => ⟨b, o, rfl, by simp, fun i u hi => hc i u ?_⟩⟩
  rw [List.getElem?_append_left (List.getElem?_eq_some_iff.1 hi).1]
  exact hi
theorem fin_trim {l l1 m : List UInt8} (hl1 : firstS l = l1) (h : m.reverse.dropWhile Go.Lib.isSp = (l1.dropWhile Go.Lib.isSp).reverse.dropWhile Go.Lib.isSp) (hm : m.reverse.dropWhile Go.Lib.isSp = m.reverse) : m = normS l := by
  subst hl1
  have e : normS l = (((firstS l).dropWhile Go.Lib.isSp).reverse.dropWhile Go.Lib.isSp).reverse := rfl
  rw [e, ← h, hm, List.reverse_reverse]
def lenOf : Value → Nat
  | .slice _ n _ => n
  | _ => 0
set_option maxRecDepth 100000 in
set_option maxHeartbeats 3200000 in
theorem normal (l : List UInt8) (w : World) (hs : l.length ≤ 1000000) :
    Calls Tryd.prog 16 #[.string ⟨l.toArray⟩] w fun e w' => ∃ m : List UInt8, e = .returned (.string ⟨m.toArray⟩) ∧ m = normS l ∧ Below w.heap.size w w' := by
  have hlim : 1000000 ≤ lim := by decide
  have H := Lib.hid (And.intro hs hlim)
  obtain ⟨n, hn⟩ : ∃ n, l.length = n := ⟨_, rfl⟩
  have hn1 : n ≤ 1000000 := by rw [← hn]; exact hs
  clear hs hlim
  go_enter Tryd.func16, Tryd.ntmps16
  go_wp2_with fail
  go_loopw [3, 4] (fun v i wr => ∃ k : Nat, i = .int .i64 k ∧ k ≤ n ∧ Own w.heap.size wr v (firstS (l.take k)) ∧ Below w.heap.size w wr) (fun _ i _ => n - (intOf i).toNat)
  case atStart => exact ⟨0, rfl, Nat.zero_le _, Own.nil _ _, Below.refl _ _⟩
  case round =>
    obtain ⟨k, rfl, hk, hown, hb⟩ := hrel
    have R := Lib.hid (And.intro hown hb)
    clear hown hb
    by_cases hkn : k < n
    · obtain ⟨b, hb⟩ : ∃ b, l[k]? = some b := ⟨_, List.getElem?_eq_getElem (by omega)⟩
      have hsz : (⟨l.toArray⟩ : ByteArray).size = n := hn
      have hkb : k < (⟨l.toArray⟩ : ByteArray).size := by rw [hsz]; exact hkn
      obtain ⟨z, hz⟩ : ∃ z, b.toNat = z := ⟨_, rfl⟩
      have hix : ((⟨l.toArray⟩ : ByteArray)[k]'hkb).toNat = z := by
        rw [← hz]
        have : (⟨l.toArray⟩ : ByteArray)[k]'hkb = b := by
          have := (List.getElem?_eq_some_iff.1 hb).2
          exact this
        rw [this]
      have hz256 : z < 256 := by rw [← hz]; exact b.toNat_lt
      have B := Lib.hid (And.intro hb hz)
      clear hb hz
      have L1 := Lib.hid (show (firstS (l.take k)).length + 1 ≤ lim by have h1 := firstS_len (l.take k); have h2 := H.out.2; rw [List.length_take] at h1; omega)
      by_cases hbig : 65 ≤ z ∧ z ≤ 90
      · have g1 : (65 : Int) ≤ z := by omega
        have g2 : (z : Int) ≤ 90 := by omega
        have F := Lib.hid (firstS_keep (y := z + 32) B.out.1 B.out.2 (by rw [if_pos hbig]) (by omega))
        clear hbig
        go_wp2_with (at_builtin; refine halted ?_)
        all_goals (try (rename_i hy _; simp only [bne_iff_ne, ne_eq, bne_eq_false_iff_eq] at hy))
        all_goals (try (rename_i hx; simp only [bne_iff_ne, ne_eq, bne_eq_false_iff_eq] at hx))
        all_goals first
          | (exfalso; omega; done)
          | (refine wpl_append_bytes bt rfl _ _ rfl w.heap.size (firstS (l.take k)) R.out.1 R.out.2.size _ [Go.Lib.lowerB b] ?_ rfl L1.out ?_
             · exact F.out.2 _ (by omega)
             intro v1 w1 hown1 hb1
             rw [← F.out.1] at hown1
             have R1 := Lib.hid (And.intro hown1 (R.out.2.trans hb1))
             clear hown1 hb1
             go_wp2
             go_roundw
             case rel => exact ⟨k + 1, rfl, by omega, R1.out.1, R1.out.2⟩
             case measure => simp [intOf]; omega)
      · have F := Lib.hid (fun h : z ≠ 46 ∧ z ≠ 95 ∧ z ≠ 45 => firstS_keep (y := z) B.out.1 B.out.2 (by rw [if_neg hbig]) h)
        have D := Lib.hid (fun h : z = 46 ∨ z = 95 ∨ z = 45 => firstS_drop B.out.1 B.out.2 h)
        have hb2 : ¬ ((65 : Int) ≤ z ∧ (z : Int) ≤ 90) := by omega
        clear hbig
        go_wp2_with (at_builtin; refine halted ?_)
        all_goals (try (rename_i hy _; simp only [bne_iff_ne, ne_eq, bne_eq_false_iff_eq] at hy))
        all_goals (try (rename_i hx; simp only [bne_iff_ne, ne_eq, bne_eq_false_iff_eq] at hx))
        all_goals first
          | (exfalso; omega; done)
          | (go_roundw
             case rel => exact ⟨k + 1, rfl, by omega, by rw [D.out (by omega)]; exact R.out.1, R.out.2⟩
             case measure => simp [intOf]; omega)
          | (refine wpl_append_bytes bt rfl _ _ rfl w.heap.size (firstS (l.take k)) R.out.1 R.out.2.size _ [Go.Lib.lowerB b] ?_ rfl L1.out ?_
             · exact (F.out (by omega)).2 _ (by omega)
             intro v1 w1 hown1 hb1
             rw [← (F.out (by omega)).1] at hown1
             have R1 := Lib.hid (And.intro hown1 (R.out.2.trans hb1))
             clear hown1 hb1
             go_wp2
             go_roundw
             case rel => exact ⟨k + 1, rfl, by omega, R1.out.1, R1.out.2⟩
             case measure => simp [intOf]; omega)
    · have hke : k = n := by omega
      subst hke
      have hsz : (⟨l.toArray⟩ : ByteArray).size = k := hn
      have e1 : l.take k = l := List.take_of_length_le (by omega)
      obtain ⟨l1, hl1⟩ : ∃ l1, firstS l = l1 := ⟨_, rfl⟩
      have hrb := R.out.1.rb [] (by simp)
      rw [e1, hl1] at hrb
      have hl1n : l1.length ≤ 1000000 := by rw [← hl1]; exact Nat.le_trans (firstS_len l) H.out.1
      have L := Lib.hid (And.intro hl1 (And.intro hl1n hrb))
      clear hl1 hl1n hrb e1 hn hkn hk
      go_wp2_with fail
      go_loopw [3] (fun v w2 => ∃ m : List UInt8, RB [] wr v m ∧ m.length ≤ 1000000 ∧ m.dropWhile Go.Lib.isSp = l1.dropWhile Go.Lib.isSp ∧ w2 = wr) (fun v _ => lenOf v)
      case atStart => exact ⟨l1, L.out.2.2, L.out.2.1, rfl, rfl⟩
      case round =>
        rename World => w2
        obtain ⟨m, hrb, hml, hdw, rfl⟩ := hrel
        obtain ⟨ad, cap, rfl, h1, h2, h3⟩ := id hrb
        cases m with
        | nil =>
          rw [List.length_nil]
          go_wp2_with fail
          have L3 := Lib.hid (And.intro hrb (And.intro hml (show ([] : List UInt8) = l1.dropWhile Go.Lib.isSp from hdw)))
          clear hrb hdw h3
          go_loopw [3] (fun v w2' => ∃ m' : List UInt8, RB [] w2 v m' ∧ m'.length ≤ 1000000 ∧ m'.reverse.dropWhile Go.Lib.isSp = (l1.dropWhile Go.Lib.isSp).reverse.dropWhile Go.Lib.isSp ∧ w2' = w2) (fun v _ => lenOf v)
          case atStart => exact ⟨_, L3.out.1, (by first | exact L3.out.2.1 | (rw [hq]; exact L3.out.2.1)), by rw [← L3.out.2.2], rfl⟩
          case round =>
            rename World => w3
            obtain ⟨m', hrb, hml, hdw, rfl⟩ := hrel
            obtain ⟨ad', cap', rfl, h1, h2, h3⟩ := id hrb
            rcases List.eq_nil_or_concat m' with rfl | ⟨r', x', rfl⟩
            · have W := Lib.hid hdw
              have hcv2 : (convert 26 9 (.slice ad' 0 cap')).run Tryd.prog w3 = .ok (.string ⟨#[]⟩) w3 := run_conv hrb
              clear hdw hrb h3
              go_wp2
              go_ret
              exact ⟨[], rfl, fin_trim L.out.1 W.out rfl, R.out.2⟩
            · rw [List.concat_eq_append] at *
              obtain ⟨bb', oo', rfl, -, hc⟩ := h3 (by simp)
              obtain ⟨q', hq'⟩ : ∃ q', r'.length = q' := ⟨_, rfl⟩
              have c1 := hc q' x' (by rw [← hq']; simp)
              unfold byteV at c1
              have hcv2 := run_conv hrb
              have M' := Lib.hid (And.intro hrb (And.intro hml (And.intro hdw hq')))
              have hl : (r' ++ [x']).length = q' + 1 := by simp [hq']
              rw [hl] at h1 hml hcv2 ⊢
              clear hrb hdw hc h3
              have C3 := Lib.hid (blank x' w3)
              cases hsp' : Go.Lib.isSp x'
              · go_wp2_with fail
                refine C3.out.mono ?_
                rintro e w4 ⟨rfl, rfl⟩
                rw [hsp']
                go_wp2
                go_ret
                exact ⟨r' ++ [x'], rfl, fin_trim L.out.1 M'.out.2.2.1 (by rw [List.reverse_append, List.reverse_cons, List.reverse_nil, List.nil_append, List.singleton_append, List.dropWhile_cons, hsp']; rfl), R.out.2⟩
              · go_wp2_with fail
                refine C3.out.mono ?_
                rintro e w4 ⟨rfl, rfl⟩
                rw [hsp']
                go_wp2
                go_roundw
                case rel => exact ⟨r', rb_init M'.out.1 M'.out.2.2.2, (by have := M'.out.2.1; rw [List.length_append] at this; omega), (by have := M'.out.2.2.1; rw [List.reverse_append, List.reverse_cons, List.reverse_nil, List.nil_append, List.singleton_append, List.dropWhile_cons, hsp', if_pos rfl] at this; exact this), (by first | rfl | trivial)⟩
                case measure => simp [lenOf]
        | cons x r =>
          obtain ⟨bb, oo, rfl, -, hc⟩ := h3 (by simp)
          have c0 := hc 0 x rfl
          unfold byteV at c0
          simp only [Nat.add_zero] at c0
          have M := Lib.hid (And.intro hrb (And.intro hml hdw))
          obtain ⟨q, hq⟩ : ∃ q, (x :: r).length = q := ⟨_, rfl⟩
          have hq0 : 0 < q := by rw [← hq]; simp
          rw [hq] at h1 hml ⊢
          clear hrb hdw hc h3
          have C := Lib.hid (blank x w2)
          cases hsp : Go.Lib.isSp x
          · go_wp2_with fail
            refine C.out.mono ?_
            rintro e w4 ⟨rfl, rfl⟩
            rw [hsp]
            go_wp2_with fail
            have L3 := Lib.hid (And.intro M.out.1 (And.intro M.out.2.1 (show x :: r = l1.dropWhile Go.Lib.isSp from by rw [← M.out.2.2, List.dropWhile_cons, hsp]; rfl)))
            clear c0 hq0
            rw [hq] at L3
            go_loopw [3] (fun v w4' => ∃ m' : List UInt8, RB [] w4 v m' ∧ m'.length ≤ 1000000 ∧ m'.reverse.dropWhile Go.Lib.isSp = (l1.dropWhile Go.Lib.isSp).reverse.dropWhile Go.Lib.isSp ∧ w4' = w4) (fun v _ => lenOf v)
            case atStart => exact ⟨_, L3.out.1, (by first | exact L3.out.2.1 | (rw [hq]; exact L3.out.2.1)), by rw [← L3.out.2.2], rfl⟩
            case round =>
              rename World => w3
              obtain ⟨m', hrb, hml, hdw, rfl⟩ := hrel
              obtain ⟨ad', cap', rfl, h1, h2, h3⟩ := id hrb
              rcases List.eq_nil_or_concat m' with rfl | ⟨r', x', rfl⟩
              · have W := Lib.hid hdw
                have hcv2 : (convert 26 9 (.slice ad' 0 cap')).run Tryd.prog w3 = .ok (.string ⟨#[]⟩) w3 := run_conv hrb
                clear hdw hrb h3
                go_wp2
                go_ret
                exact ⟨[], rfl, fin_trim L.out.1 W.out rfl, R.out.2⟩
              · rw [List.concat_eq_append] at *
                obtain ⟨bb', oo', rfl, -, hc⟩ := h3 (by simp)
                obtain ⟨q', hq'⟩ : ∃ q', r'.length = q' := ⟨_, rfl⟩
                have c1 := hc q' x' (by rw [← hq']; simp)
                unfold byteV at c1
                have hcv2 := run_conv hrb
                have M' := Lib.hid (And.intro hrb (And.intro hml (And.intro hdw hq')))
                have hl : (r' ++ [x']).length = q' + 1 := by simp [hq']
                rw [hl] at h1 hml hcv2 ⊢
                clear hrb hdw hc h3
                have C3 := Lib.hid (blank x' w3)
                cases hsp' : Go.Lib.isSp x'
                · go_wp2_with fail
                  refine C3.out.mono ?_
                  rintro e w4 ⟨rfl, rfl⟩
                  rw [hsp']
                  go_wp2
                  go_ret
                  exact ⟨r' ++ [x'], rfl, fin_trim L.out.1 M'.out.2.2.1 (by rw [List.reverse_append, List.reverse_cons, List.reverse_nil, List.nil_append, List.singleton_append, List.dropWhile_cons, hsp']; rfl), R.out.2⟩
                · go_wp2_with fail
                  refine C3.out.mono ?_
                  rintro e w4 ⟨rfl, rfl⟩
                  rw [hsp']
                  go_wp2
                  go_roundw
                  case rel => exact ⟨r', rb_init M'.out.1 M'.out.2.2.2, (by have := M'.out.2.1; rw [List.length_append] at this; omega), (by have := M'.out.2.2.1; rw [List.reverse_append, List.reverse_cons, List.reverse_nil, List.nil_append, List.singleton_append, List.dropWhile_cons, hsp', if_pos rfl] at this; exact this), (by first | rfl | trivial)⟩
                  case measure => simp [lenOf]
          · go_wp2_with fail
            refine C.out.mono ?_
            rintro e w4 ⟨rfl, rfl⟩
            rw [hsp]
            go_wp2
            go_roundw
            case rel => exact ⟨r, rb_tail M.out.1 hq, (by have := M.out.2.1; rw [List.length_cons] at this; omega), (by have := M.out.2.2; rw [List.dropWhile_cons, hsp, if_pos rfl] at this; exact this), (by first | rfl | trivial)⟩
            case measure => simp [lenOf]; omega
end Go.Proofs.YtpjoglnopfmjfaaDoor
