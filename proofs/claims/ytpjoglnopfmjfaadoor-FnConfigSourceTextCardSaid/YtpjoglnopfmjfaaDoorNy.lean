/- The law of the kinds of control records: whatever the text, it answers true. -/
import Derived.Test.YtpjoglnopfmjfaaDoorNw
import Derived.Lib.ConvBytes
namespace Go.Proofs.YtpjoglnopfmjfaaDoor
open Go Go.RowKit

set_option maxRecDepth 100000 in
set_option maxHeartbeats 1600000 in
theorem parsedOK (l : List UInt8) (hs : l.length ≤ 1000000) (b : Nat) (n : Int) (ok : Bool) (w : World) (hB : Blk w b keyCells 47) (hb : b < w.heap.size) (h : (lookKey (normS l) = some n ∧ ok = true) ∨ (lookKey (normS l) = none ∧ ok = false)) :
    Calls Tryd.prog 8 #[.slice (some ⟨b, 0, none⟩) 7 7, .string ⟨l.toArray⟩, .int .i64 n, .bool ok] w fun e w' => e = .returned (.bool true) ∧ Below w.heap.size w w' := by
  have C := Lib.hid (parsedKey l hs b w hB hb)
  clear hs hB hb
  rcases h with ⟨h, rfl⟩ | ⟨h, rfl⟩
  · rw [h] at C
    clear h
    go_enter Tryd.func8, Tryd.ntmps8
    go_wp2_with fail
    refine C.out.mono ?_
    rintro e w1 ⟨rfl, hb⟩
    have B := Lib.hid hb
    clear hb C
    unfold lookOut
    go_wp2
    go_ret
    exact ⟨rfl, B.out⟩
  · rw [h] at C
    clear h
    go_enter Tryd.func8, Tryd.ntmps8
    go_wp2_with fail
    refine C.out.mono ?_
    rintro e w1 ⟨rfl, hb⟩
    have B := Lib.hid hb
    clear hb C
    unfold lookOut
    go_wp2
    go_ret
    exact ⟨rfl, B.out⟩

set_option maxRecDepth 100000 in
set_option maxHeartbeats 1600000 in
theorem plainOK (l : List UInt8) (w : World) :
    Calls Tryd.prog 5 #[.string ⟨l.toArray⟩] w fun e w' => ∃ p, e = .returned (.bool p) ∧ (p = true → l.length ≤ 200 ∧ Ascii l) ∧ Below w.heap.size w w' := by
  obtain ⟨n, hn⟩ : ∃ n, l.length = n := ⟨_, rfl⟩
  have hsz : (⟨l.toArray⟩ : ByteArray).size = n := hn
  by_cases h2 : 200 < n
  · have h2' : (200 : Int) < n := by omega
    go_enter Tryd.func5, Tryd.ntmps5
    go_wp2
    go_ret
    exact ⟨false, rfl, fun h => (by cases h), Below.refl _ _⟩
  · have h2' : ¬ (200 : Int) < n := by omega
    have hn2 : n ≤ 200 := by omega
    have C := Lib.hid (normal l w (by omega))
    clear h2
    go_enter Tryd.func5, Tryd.ntmps5
    go_wp2_with fail
    refine C.out.mono ?_
    rintro e w1 ⟨m, rfl, -, hb⟩
    have B := Lib.hid hb
    clear hb C
    by_cases hu : m = [117, 110, 107, 110, 111, 119, 110]
    · subst hu
      go_wp2
      go_ret
      exact ⟨false, rfl, fun h => (by cases h), B.out⟩
    have q : (m == [117, 110, 107, 110, 111, 119, 110]) = false := by simpa using hu
    clear hu
    go_wp2_with fail
    go_loopw [3] (fun i wr => ∃ k : Nat, i = .int .i64 k ∧ k ≤ n ∧ (∀ b ∈ l.take k, b.toNat < 128) ∧ wr = w1) (fun i _ => n - (intOf i).toNat)
    case atStart => exact ⟨0, rfl, Nat.zero_le _, (by simp), rfl⟩
    case round =>
      rename World => w2
      obtain ⟨k, rfl, hk, ha, rfl⟩ := hrel
      by_cases hkn : k < n
      · obtain ⟨b, hbk⟩ : ∃ b, l[k]? = some b := ⟨_, List.getElem?_eq_getElem (by omega)⟩
        have hkb : k < (⟨l.toArray⟩ : ByteArray).size := by rw [hsz]; exact hkn
        obtain ⟨z, hz⟩ : ∃ z, b.toNat = z := ⟨_, rfl⟩
        have hix : ((⟨l.toArray⟩ : ByteArray)[k]'hkb).toNat = z := by
          rw [← hz]
          have : (⟨l.toArray⟩ : ByteArray)[k]'hkb = b := (List.getElem?_eq_some_iff.1 hbk).2
          rw [this]
        have Bk := Lib.hid (And.intro hbk (And.intro hz ha))
        clear hbk hz ha
        by_cases hz1 : 127 < z
        · have hz1' : (127 : Int) < z := by omega
          go_wp2
          go_ret
          exact ⟨false, rfl, fun h => (by cases h), B.out⟩
        · have hz1' : ¬ (127 : Int) < z := by omega
          go_wp2
          go_roundw
          case rel =>
            refine ⟨k + 1, rfl, hkn, fun c hc => ?_, by first | rfl | trivial⟩
            rw [List.take_add_one, Bk.out.1] at hc
            rcases List.mem_append.1 hc with hc | hc
            · exact Bk.out.2.2 c hc
            · simp only [Option.toList_some, List.mem_singleton] at hc
              subst hc
              rw [Bk.out.2.1]
              omega
          case measure => simp [intOf]; omega
      · have hkn' : k = n := by omega
        subst hkn'
        have A := Lib.hid (show Ascii l from by rwa [List.take_of_length_le (by omega)] at ha)
        clear ha
        go_wp2
        go_ret
        exact ⟨true, rfl, fun _ => ⟨by omega, A.out⟩, B.out⟩

theorem convText (l : List UInt8) (w : World) (hl : l.length ≤ 1000000) : ∃ v w', (convert 9 26 (.string ⟨l.toArray⟩)).run Tryd.prog w = .ok v w' ∧ RB [] w' v l ∧ Below w.heap.size w w' := by
  refine ⟨_, _, Go.Lib.run_convert_string_bytes w _ _ 5 ⟨l.toArray⟩ Tryd.underlying9 Tryd.underlying26 Tryd.underlying5, ?_, Go.Joins.below_bytesWorld w.heap.size w _ _ (Nat.le_refl _)⟩
  have hs : (⟨l.toArray⟩ : ByteArray).size = l.length := rfl
  rw [hs]
  have g1 : l.length ≤ grownCap w l.length 0 5 := grownCap_ge w _ _ _
  have g2 : grownCap w l.length 0 5 ≤ maxLen := grownCap_le_maxLen w l.length 0 _ (by unfold maxLen; omega)
  have g3 : grownCap w l.length 0 5 ≤ 9223372036854775807 := by unfold maxLen at g2; omega
  generalize grownCap w l.length 0 5 = gc at g1 g3 ⊢
  refine ⟨_, gc, rfl, g1, g3, fun _ => ⟨w.heap.size, 0, rfl, by simp, fun i u hi => ?_⟩⟩
  have hlt := (List.getElem?_eq_some_iff.1 hi).1
  rw [Nat.zero_add, Go.Lib.bytesWorld_cell w _ ⟨l.toArray⟩ i hlt]
  unfold byteV
  have e : (⟨l.toArray⟩ : ByteArray).data.toList.getD i 0 = u := by
    show l.getD i 0 = u
    rw [List.getD_eq_getElem?_getD, hi]
    rfl
  rw [e]
set_option maxRecDepth 100000 in
set_option maxHeartbeats 1600000 in
theorem lawKey (l : List UInt8) (w : World) (htab : Go.Lib.TabIs Tryd.prog w "strings.asciiSpace" .u8 Go.Lib.asciiSpaceTab) :
    Calls Tryd.prog 3 #[.string ⟨l.toArray⟩] w fun e w' => e = .returned (.bool true) ∧ Below w.heap.size w w' := by
  have hg : Tryd.prog.globalNamed "strings.asciiSpace" = some 0 := by kernel_rfl
  obtain ⟨n, hn⟩ : ∃ n, l.length = n := ⟨_, rfl⟩
  have hsz : (⟨l.toArray⟩ : ByteArray).size = n := hn
  have P := Lib.hid (plainOK l w)
  have H := Lib.hid (And.intro hg htab)
  clear hg htab
  by_cases h2 : 2147483647 < n
  · have h2' : (2147483647 : Int) < n := by omega
    go_enter Tryd.func3, Tryd.ntmps3
    go_wp2
    go_ret
    exact ⟨rfl, Below.refl _ _⟩
  have h2' : ¬ (2147483647 : Int) < n := by omega
  clear h2
  go_enter Tryd.func3, Tryd.ntmps3
  go_wp2_with fail
  refine P.out.mono ?_
  rintro e w1 ⟨p, rfl, hp, hb⟩
  cases p
  · have B := Lib.hid hb
    clear hb hp P
    go_wp2
    go_ret
    exact ⟨rfl, B.out⟩
  obtain ⟨hp1, hp2⟩ := hp rfl
  have T1 := Go.Joins.tab_stays H.out.1 H.out.2 hb (Nat.le_refl _)
  have C1 := Lib.hid (implKey l w1 (by omega) hp2 T1)
  have X := Lib.hid (And.intro hp1 (And.intro hp2 (And.intro T1 hb)))
  clear hp1 hp2 hp T1 hb P
  go_wp2_with fail
  refine C1.out.mono ?_
  rintro e w2 ⟨⟨n1, ok1, rfl, hd1⟩, hb2⟩
  obtain ⟨v, w3, hcv, hrb, hb3⟩ := convText l w2 (by have := X.out.1; omega)
  have b12 : Below w.heap.size w w2 := X.out.2.2.2.trans (hb2.mono X.out.2.2.2.size)
  have b13 : Below w.heap.size w w3 := b12.trans (hb3.mono b12.size)
  have C2 := Lib.hid (ofTextKey v l w3 (by have := X.out.1; omega) X.out.2.1 (Go.Joins.tab_stays H.out.1 H.out.2 b13 (Nat.le_refl _)) hrb.rl)
  obtain ⟨va, vc, rfl, -⟩ := id hrb
  have Y := Lib.hid (And.intro hd1 b13)
  clear hd1 hb2 C1 hrb hb3 b12 b13
  rw [hn] at C2 hcv
  go_wp2_with fail
  refine C2.out.mono ?_
  rintro e w4 ⟨⟨n2, ok2, rfl, hd2⟩, hb4⟩
  have b14 : Below w.heap.size w w4 := Y.out.2.trans (hb4.mono Y.out.2.size)
  have Z := Lib.hid (And.intro hd2 b14)
  clear hd2 hb4 b14 C2 hcv
  go_wp2_with fail
  refine (keyTable _).mono ?_
  rintro e w5 ⟨rfl, hB5, hb5⟩
  have b15 : Below w.heap.size w w5 := Z.out.2.trans (hb5.mono Z.out.2.size)
  have C5 := Lib.hid (parsedOK l (by have := X.out.1; omega) _ n1 ok1 w5 hB5 hB5.lt (by rw [← normC_normS]; exact Y.out.1))
  have B5 := Lib.hid b15
  clear hB5 hb5 b15
  go_wp2_with fail
  refine C5.out.mono ?_
  rintro e w6 ⟨rfl, hb6⟩
  have B6 := Lib.hid (B5.out.trans (hb6.mono B5.out.size))
  clear hb6 C5
  go_wp2_with fail
  refine (keyTable _).mono ?_
  rintro e w7 ⟨rfl, hB7, hb7⟩
  have b17 : Below w.heap.size w w7 := B6.out.trans (hb7.mono B6.out.size)
  have C7 := Lib.hid (parsedOK l (by have := X.out.1; omega) _ n2 ok2 w7 hB7 hB7.lt (by rw [← normC_normS]; exact Z.out.1))
  have B7 := Lib.hid b17
  clear hB7 hb7 b17
  go_wp2_with fail
  refine C7.out.mono ?_
  rintro e w8 ⟨rfl, hb8⟩
  have B8 := Lib.hid (B7.out.trans (hb8.mono B7.out.size))
  clear hb8 C7
  go_wp2
  go_ret
  exact ⟨rfl, B8.out⟩
end Go.Proofs.YtpjoglnopfmjfaaDoor
