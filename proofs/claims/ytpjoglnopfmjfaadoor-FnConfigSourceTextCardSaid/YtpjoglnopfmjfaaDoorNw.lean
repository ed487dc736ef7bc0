/- What the reference reads a text as; which texts the law speaks of; that what was read is what the reference reads. -/
import Derived.Test.YtpjoglnopfmjfaaDoorNv
namespace Go.Proofs.YtpjoglnopfmjfaaDoor
open Go Go.RowKit

def lookOut (o : Option Int) : Value := match o with
  | some n => .tuple #[.int .i64 n, .bool true]
  | none => .tuple #[.int .i64 0, .bool false]
theorem normW0 : normS [65, 66, 79, 82, 84] = [97, 98, 111, 114, 116] := by decide +kernel
theorem normW1 : normS [67, 79, 77, 77, 73, 84] = [99, 111, 109, 109, 105, 116] := by decide +kernel
theorem normW2 : normS [81, 85, 79, 82, 85, 77, 95, 82, 69, 65, 83, 83, 73, 71, 78, 77, 69, 78, 84] = [113, 117, 111, 114, 117, 109, 114, 101, 97, 115, 115, 105, 103, 110, 109, 101, 110, 116] := by decide +kernel
theorem normW3 : normS [83, 78, 65, 80, 83, 72, 79, 84, 95, 72, 69, 65, 68, 69, 82] = [115, 110, 97, 112, 115, 104, 111, 116, 104, 101, 97, 100, 101, 114] := by decide +kernel
theorem normW4 : normS [83, 78, 65, 80, 83, 72, 79, 84, 95, 70, 79, 79, 84, 69, 82] = [115, 110, 97, 112, 115, 104, 111, 116, 102, 111, 111, 116, 101, 114] := by decide +kernel
theorem normW5 : normS [75, 82, 65, 70, 84, 95, 86, 69, 82, 83, 73, 79, 78] = [107, 114, 97, 102, 116, 118, 101, 114, 115, 105, 111, 110] := by decide +kernel
theorem normW6 : normS [75, 82, 65, 70, 84, 95, 86, 79, 84, 69, 82, 83] = [107, 114, 97, 102, 116, 118, 111, 116, 101, 114, 115] := by decide +kernel
set_option maxRecDepth 100000 in
set_option maxHeartbeats 6400000 in
theorem parsedKey (l : List UInt8) (hs : l.length ≤ 1000000) (b : Nat) (w : World) (hB : Blk w b keyCells 47) (hb : b < w.heap.size) : Calls Tryd.prog 19 #[.slice (some ⟨b, 0, none⟩) 7 7, .string ⟨l.toArray⟩] w fun e w' => e = .returned (lookOut (lookKey (normS l))) ∧ Below w.heap.size w w' := by
  have hb0 := Below.refl w.heap.size w
  have NL := normal l
  obtain ⟨nl, hnl⟩ : ∃ nl, normS l = nl := ⟨_, rfl⟩
  rw [hnl] at NL ⊢
  have NLH := Lib.hid (fun w => NL w hs)
  clear NL hnl hs
  have HB := Lib.hid hB
  have m0 := hB.cell_some (i := 0) rfl
  have m1 := hB.cell_some (i := 1) rfl
  clear hB
  go_enter Tryd.func19, Tryd.ntmps19
  go_wp2_with fail
  refine wp_loop_rounds 8 ?_
  rw [rounds_succ]
  go_wp2_with fail
  have ha := Blk.alloc_new w [.int .i64 0, .string ⟨#[65, 66, 79, 82, 84]⟩] 47
  have hal := ha.lt
  have q0 := Lib.hid (And.intro ha (And.intro hal (hb0.alloc hb0.size (.cells #[.int .i64 0, .string ⟨#[65, 66, 79, 82, 84]⟩] 47))))
  clear ha hal
  refine (normal [65, 66, 79, 82, 84] _ (by decide)).mono ?_
  rintro e wa0 ⟨m, rfl, em, hba⟩
  rw [normW0] at em
  subst em
  have B1 := Lib.hid hba
  clear hba
  go_wp2_with fail
  refine (NLH.out _).mono ?_
  rintro e wb0 ⟨m, rfl, em, hbb⟩
  subst em
  have hab := B1.out.trans (hbb.mono B1.out.size)
  have hblk := q0.out.1.below hab q0.out.2.1
  have n0 := hblk.cell_some (i := 0) rfl
  have n1 := hblk.cell_some (i := 1) rfl
  have hb1 := q0.out.2.2.trans (hab.mono q0.out.2.2.size)
  clear hab hblk hbb B1 q0
  by_cases h0 : [97, 98, 111, 114, 116] = m
  · subst h0
    have e : lookKey [97, 98, 111, 114, 116] = some 0 := by decide
    have E := Lib.hid e
    clear e
    go_wp2
    go_ret2
    exact ⟨by rw [E.out]; rfl, hb1⟩
  have g0 : ([97, 98, 111, 114, 116] == m) = false := by simpa using h0
  go_wp2_with fail
  have m2 := (HB.out.below hb1 hb).cell_some (i := 2) rfl
  have m3 := (HB.out.below hb1 hb).cell_some (i := 3) rfl
  clear m0 m1 hb0 n0 n1
  rw [rounds_succ]
  go_wp2_with fail
  have ha := Blk.alloc_new wb0 [.int .i64 1, .string ⟨#[67, 79, 77, 77, 73, 84]⟩] 47
  have hal := ha.lt
  have q0 := Lib.hid (And.intro ha (And.intro hal (hb1.alloc hb1.size (.cells #[.int .i64 1, .string ⟨#[67, 79, 77, 77, 73, 84]⟩] 47))))
  clear ha hal
  refine (normal [67, 79, 77, 77, 73, 84] _ (by decide)).mono ?_
  rintro e wa1 ⟨m, rfl, em, hba⟩
  rw [normW1] at em
  subst em
  have B1 := Lib.hid hba
  clear hba
  go_wp2_with fail
  refine (NLH.out _).mono ?_
  rintro e wb1 ⟨m, rfl, em, hbb⟩
  subst em
  have hab := B1.out.trans (hbb.mono B1.out.size)
  have hblk := q0.out.1.below hab q0.out.2.1
  have n0 := hblk.cell_some (i := 0) rfl
  have n1 := hblk.cell_some (i := 1) rfl
  have hb2 := q0.out.2.2.trans (hab.mono q0.out.2.2.size)
  clear hab hblk hbb B1 q0
  by_cases h1 : [99, 111, 109, 109, 105, 116] = m
  · subst h1
    have e : lookKey [99, 111, 109, 109, 105, 116] = some 1 := by decide
    have E := Lib.hid e
    clear e
    go_wp2
    go_ret2
    exact ⟨by rw [E.out]; rfl, hb2⟩
  have g1 : ([99, 111, 109, 109, 105, 116] == m) = false := by simpa using h1
  go_wp2_with fail
  have m4 := (HB.out.below hb2 hb).cell_some (i := 4) rfl
  have m5 := (HB.out.below hb2 hb).cell_some (i := 5) rfl
  clear m2 m3 hb1 n0 n1
  rw [rounds_succ]
  go_wp2_with fail
  have ha := Blk.alloc_new wb1 [.int .i64 2, .string ⟨#[81, 85, 79, 82, 85, 77, 95, 82, 69, 65, 83, 83, 73, 71, 78, 77, 69, 78, 84]⟩] 47
  have hal := ha.lt
  have q0 := Lib.hid (And.intro ha (And.intro hal (hb2.alloc hb2.size (.cells #[.int .i64 2, .string ⟨#[81, 85, 79, 82, 85, 77, 95, 82, 69, 65, 83, 83, 73, 71, 78, 77, 69, 78, 84]⟩] 47))))
  clear ha hal
  refine (normal [81, 85, 79, 82, 85, 77, 95, 82, 69, 65, 83, 83, 73, 71, 78, 77, 69, 78, 84] _ (by decide)).mono ?_
  rintro e wa2 ⟨m, rfl, em, hba⟩
  rw [normW2] at em
  subst em
  have B1 := Lib.hid hba
  clear hba
  go_wp2_with fail
  refine (NLH.out _).mono ?_
  rintro e wb2 ⟨m, rfl, em, hbb⟩
  subst em
  have hab := B1.out.trans (hbb.mono B1.out.size)
  have hblk := q0.out.1.below hab q0.out.2.1
  have n0 := hblk.cell_some (i := 0) rfl
  have n1 := hblk.cell_some (i := 1) rfl
  have hb3 := q0.out.2.2.trans (hab.mono q0.out.2.2.size)
  clear hab hblk hbb B1 q0
  by_cases h2 : [113, 117, 111, 114, 117, 109, 114, 101, 97, 115, 115, 105, 103, 110, 109, 101, 110, 116] = m
  · subst h2
    have e : lookKey [113, 117, 111, 114, 117, 109, 114, 101, 97, 115, 115, 105, 103, 110, 109, 101, 110, 116] = some 2 := by decide
    have E := Lib.hid e
    clear e
    go_wp2
    go_ret2
    exact ⟨by rw [E.out]; rfl, hb3⟩
  have g2 : ([113, 117, 111, 114, 117, 109, 114, 101, 97, 115, 115, 105, 103, 110, 109, 101, 110, 116] == m) = false := by simpa using h2
  go_wp2_with fail
  have m6 := (HB.out.below hb3 hb).cell_some (i := 6) rfl
  have m7 := (HB.out.below hb3 hb).cell_some (i := 7) rfl
  clear m4 m5 hb2 n0 n1
  rw [rounds_succ]
  go_wp2_with fail
  have ha := Blk.alloc_new wb2 [.int .i64 3, .string ⟨#[83, 78, 65, 80, 83, 72, 79, 84, 95, 72, 69, 65, 68, 69, 82]⟩] 47
  have hal := ha.lt
  have q0 := Lib.hid (And.intro ha (And.intro hal (hb3.alloc hb3.size (.cells #[.int .i64 3, .string ⟨#[83, 78, 65, 80, 83, 72, 79, 84, 95, 72, 69, 65, 68, 69, 82]⟩] 47))))
  clear ha hal
  refine (normal [83, 78, 65, 80, 83, 72, 79, 84, 95, 72, 69, 65, 68, 69, 82] _ (by decide)).mono ?_
  rintro e wa3 ⟨m, rfl, em, hba⟩
  rw [normW3] at em
  subst em
  have B1 := Lib.hid hba
  clear hba
  go_wp2_with fail
  refine (NLH.out _).mono ?_
  rintro e wb3 ⟨m, rfl, em, hbb⟩
  subst em
  have hab := B1.out.trans (hbb.mono B1.out.size)
  have hblk := q0.out.1.below hab q0.out.2.1
  have n0 := hblk.cell_some (i := 0) rfl
  have n1 := hblk.cell_some (i := 1) rfl
  have hb4 := q0.out.2.2.trans (hab.mono q0.out.2.2.size)
  clear hab hblk hbb B1 q0
  by_cases h3 : [115, 110, 97, 112, 115, 104, 111, 116, 104, 101, 97, 100, 101, 114] = m
  · subst h3
    have e : lookKey [115, 110, 97, 112, 115, 104, 111, 116, 104, 101, 97, 100, 101, 114] = some 3 := by decide
    have E := Lib.hid e
    clear e
    go_wp2
    go_ret2
    exact ⟨by rw [E.out]; rfl, hb4⟩
  have g3 : ([115, 110, 97, 112, 115, 104, 111, 116, 104, 101, 97, 100, 101, 114] == m) = false := by simpa using h3
  go_wp2_with fail
  have m8 := (HB.out.below hb4 hb).cell_some (i := 8) rfl
  have m9 := (HB.out.below hb4 hb).cell_some (i := 9) rfl
  clear m6 m7 hb3 n0 n1
  rw [rounds_succ]
  go_wp2_with fail
  have ha := Blk.alloc_new wb3 [.int .i64 4, .string ⟨#[83, 78, 65, 80, 83, 72, 79, 84, 95, 70, 79, 79, 84, 69, 82]⟩] 47
  have hal := ha.lt
  have q0 := Lib.hid (And.intro ha (And.intro hal (hb4.alloc hb4.size (.cells #[.int .i64 4, .string ⟨#[83, 78, 65, 80, 83, 72, 79, 84, 95, 70, 79, 79, 84, 69, 82]⟩] 47))))
  clear ha hal
  refine (normal [83, 78, 65, 80, 83, 72, 79, 84, 95, 70, 79, 79, 84, 69, 82] _ (by decide)).mono ?_
  rintro e wa4 ⟨m, rfl, em, hba⟩
  rw [normW4] at em
  subst em
  have B1 := Lib.hid hba
  clear hba
  go_wp2_with fail
  refine (NLH.out _).mono ?_
  rintro e wb4 ⟨m, rfl, em, hbb⟩
  subst em
  have hab := B1.out.trans (hbb.mono B1.out.size)
  have hblk := q0.out.1.below hab q0.out.2.1
  have n0 := hblk.cell_some (i := 0) rfl
  have n1 := hblk.cell_some (i := 1) rfl
  have hb5 := q0.out.2.2.trans (hab.mono q0.out.2.2.size)
  clear hab hblk hbb B1 q0
  by_cases h4 : [115, 110, 97, 112, 115, 104, 111, 116, 102, 111, 111, 116, 101, 114] = m
  · subst h4
    have e : lookKey [115, 110, 97, 112, 115, 104, 111, 116, 102, 111, 111, 116, 101, 114] = some 4 := by decide
    have E := Lib.hid e
    clear e
    go_wp2
    go_ret2
    exact ⟨by rw [E.out]; rfl, hb5⟩
  have g4 : ([115, 110, 97, 112, 115, 104, 111, 116, 102, 111, 111, 116, 101, 114] == m) = false := by simpa using h4
  go_wp2_with fail
  have m10 := (HB.out.below hb5 hb).cell_some (i := 10) rfl
  have m11 := (HB.out.below hb5 hb).cell_some (i := 11) rfl
  clear m8 m9 hb4 n0 n1
  rw [rounds_succ]
  go_wp2_with fail
  have ha := Blk.alloc_new wb4 [.int .i64 5, .string ⟨#[75, 82, 65, 70, 84, 95, 86, 69, 82, 83, 73, 79, 78]⟩] 47
  have hal := ha.lt
  have q0 := Lib.hid (And.intro ha (And.intro hal (hb5.alloc hb5.size (.cells #[.int .i64 5, .string ⟨#[75, 82, 65, 70, 84, 95, 86, 69, 82, 83, 73, 79, 78]⟩] 47))))
  clear ha hal
  refine (normal [75, 82, 65, 70, 84, 95, 86, 69, 82, 83, 73, 79, 78] _ (by decide)).mono ?_
  rintro e wa5 ⟨m, rfl, em, hba⟩
  rw [normW5] at em
  subst em
  have B1 := Lib.hid hba
  clear hba
  go_wp2_with fail
  refine (NLH.out _).mono ?_
  rintro e wb5 ⟨m, rfl, em, hbb⟩
  subst em
  have hab := B1.out.trans (hbb.mono B1.out.size)
  have hblk := q0.out.1.below hab q0.out.2.1
  have n0 := hblk.cell_some (i := 0) rfl
  have n1 := hblk.cell_some (i := 1) rfl
  have hb6 := q0.out.2.2.trans (hab.mono q0.out.2.2.size)
  clear hab hblk hbb B1 q0
  by_cases h5 : [107, 114, 97, 102, 116, 118, 101, 114, 115, 105, 111, 110] = m
  · subst h5
    have e : lookKey [107, 114, 97, 102, 116, 118, 101, 114, 115, 105, 111, 110] = some 5 := by decide
    have E := Lib.hid e
    clear e
    go_wp2
    go_ret2
    exact ⟨by rw [E.out]; rfl, hb6⟩
  have g5 : ([107, 114, 97, 102, 116, 118, 101, 114, 115, 105, 111, 110] == m) = false := by simpa using h5
  go_wp2_with fail
  have m12 := (HB.out.below hb6 hb).cell_some (i := 12) rfl
  have m13 := (HB.out.below hb6 hb).cell_some (i := 13) rfl
  clear m10 m11 hb5 n0 n1
  rw [rounds_succ]
  go_wp2_with fail
  have ha := Blk.alloc_new wb5 [.int .i64 6, .string ⟨#[75, 82, 65, 70, 84, 95, 86, 79, 84, 69, 82, 83]⟩] 47
  have hal := ha.lt
  have q0 := Lib.hid (And.intro ha (And.intro hal (hb6.alloc hb6.size (.cells #[.int .i64 6, .string ⟨#[75, 82, 65, 70, 84, 95, 86, 79, 84, 69, 82, 83]⟩] 47))))
  clear ha hal
  refine (normal [75, 82, 65, 70, 84, 95, 86, 79, 84, 69, 82, 83] _ (by decide)).mono ?_
  rintro e wa6 ⟨m, rfl, em, hba⟩
  rw [normW6] at em
  subst em
  have B1 := Lib.hid hba
  clear hba
  go_wp2_with fail
  refine (NLH.out _).mono ?_
  rintro e wb6 ⟨m, rfl, em, hbb⟩
  subst em
  have hab := B1.out.trans (hbb.mono B1.out.size)
  have hblk := q0.out.1.below hab q0.out.2.1
  have n0 := hblk.cell_some (i := 0) rfl
  have n1 := hblk.cell_some (i := 1) rfl
  have hb7 := q0.out.2.2.trans (hab.mono q0.out.2.2.size)
  clear hab hblk hbb B1 q0
  by_cases h6 : [107, 114, 97, 102, 116, 118, 111, 116, 101, 114, 115] = m
  · subst h6
    have e : lookKey [107, 114, 97, 102, 116, 118, 111, 116, 101, 114, 115] = some 6 := by decide
    have E := Lib.hid e
    clear e
    go_wp2
    go_ret2
    exact ⟨by rw [E.out]; rfl, hb7⟩
  have g6 : ([107, 114, 97, 102, 116, 118, 111, 116, 101, 114, 115] == m) = false := by simpa using h6
  go_wp2_with fail
  have m14 := (HB.out.below hb7 hb).cell_some (i := 0) rfl
  have m15 := (HB.out.below hb7 hb).cell_some (i := 1) rfl
  clear m12 m13 hb6 n0 n1
  rw [rounds_succ]
  have e : lookKey m = none := by
    unfold lookKey
    rw [if_neg (fun e => h0 e.symm), if_neg (fun e => h1 e.symm), if_neg (fun e => h2 e.symm), if_neg (fun e => h3 e.symm), if_neg (fun e => h4 e.symm), if_neg (fun e => h5 e.symm), if_neg (fun e => h6 e.symm)]
  have E := Lib.hid e
  clear e
  go_wp2
  go_ret2
  exact ⟨by rw [E.out]; rfl, hb7⟩
end Go.Proofs.YtpjoglnopfmjfaaDoor
