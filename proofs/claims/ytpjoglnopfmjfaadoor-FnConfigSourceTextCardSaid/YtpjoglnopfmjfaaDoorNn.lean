/- The code's strnorm: what a text is when its dots, underscores, dashes, blanks at the ends and big letters are gone. (Shelf: shelf.py SEAT strings_TrimSpace strings_ToLower_ascii Builder_Extra_159 Space_Extra_163 +Derived.Shelf.Strings.TrimSpace +Derived.Shelf.Strings.OnBuilder) -/
import Derived.Test.YtpjoglnopfmjfaaDoorNx
import Derived.Test.YtpjoglnopfmjfaaDoorShelf
import Derived.Lib.SmallJoins
namespace Go.Proofs.YtpjoglnopfmjfaaDoor
open Go Go.RowKit

/-- All below 128. -/
def Ascii (l : List UInt8) : Prop := ∀ b ∈ l, b.toNat < 128
theorem Ascii.filter {l : List UInt8} (h : Ascii l) (p : UInt8 → Bool) : Ascii (l.filter p) := fun b hb => h b (List.mem_filter.1 hb).1
theorem mem_dropWhile {p : UInt8 → Bool} {b : UInt8} : ∀ {l : List UInt8}, b ∈ l.dropWhile p → b ∈ l
  | a :: l, h => by
    rw [List.dropWhile_cons] at h
    split at h
    · exact List.mem_cons_of_mem _ (mem_dropWhile h)
    · exact h
theorem Ascii.trim {l : List UInt8} (h : Ascii l) : Ascii (Go.Lib.trimSpace l) := fun b hb => by
  unfold Go.Lib.trimSpace at hb
  exact h b (mem_dropWhile (List.mem_reverse.1 (mem_dropWhile (List.mem_reverse.1 hb))))
theorem dropWhile_len (p : UInt8 → Bool) : ∀ l : List UInt8, (l.dropWhile p).length ≤ l.length
  | [] => Nat.le_refl _
  | a :: l => by
    rw [List.dropWhile_cons]
    split
    · exact Nat.le_trans (dropWhile_len p l) (by simp)
    · exact Nat.le_refl _
theorem trim_len (l : List UInt8) : (Go.Lib.trimSpace l).length ≤ l.length := by
  unfold Go.Lib.trimSpace
  rw [List.length_reverse]
  refine Nat.le_trans (dropWhile_len _ _) ?_
  rw [List.length_reverse]
  exact dropWhile_len _ _
theorem Ascii.at {l : List UInt8} (h : Ascii l) : ∀ (j : Nat) (b : UInt8), l[j]? = some b → b.toNat < 128 := fun _ b hb => h b (List.mem_of_getElem? hb)

theorem zzR (l : List UInt8) (c : UInt8) (w : World) (hs : l.length ≤ 1000000) :
    Calls Tryd.prog 27 #[.string ⟨l.toArray⟩, .string ⟨#[c]⟩, .string ⟨#[]⟩] w fun e w' => ∃ m : List UInt8, e = .returned (.string ⟨m.toArray⟩) ∧ m = l.filter (· != c) ∧ Below w.heap.size w w' :=
  (zzReplaceAll ⟨l.toArray⟩ c w hs).mono fun _ _ h => ⟨l.filter (· != c), h.1, rfl, h.2⟩
theorem trimR (l : List UInt8) (w : World) (hs : l.length ≤ 1000000) (ha : Ascii l) (htab : Go.Lib.TabIs Tryd.prog w "strings.asciiSpace" .u8 Go.Lib.asciiSpaceTab) :
    Calls Tryd.prog 28 #[.string ⟨l.toArray⟩] w fun e w' => ∃ m : List UInt8, e = .returned (.string ⟨m.toArray⟩) ∧ m = Go.Lib.trimSpace l ∧ Below w.heap.size w w' :=
  (Tryd.strings_TrimSpace ⟨l.toArray⟩ w (Nat.le_trans hs (by decide)) ha.at htab).mono fun _ _ h => ⟨Go.Lib.trimSpace l, h.1, rfl, h.2 ▸ Go.Joins.below_bytesWorld w.heap.size w _ _ (Nat.le_refl _)⟩
theorem lowerR (l : List UInt8) (w : World) (hs : l.length ≤ 1000000) (ha : Ascii l) :
    Calls Tryd.prog 29 #[.string ⟨l.toArray⟩] w fun e w' => ∃ m : List UInt8, e = .returned (.string ⟨m.toArray⟩) ∧ m = Go.Lib.toLowerA l ∧ Below w.heap.size w w' :=
  (Tryd.strings_ToLower_ascii ⟨l.toArray⟩ w (Nat.le_trans hs (by decide)) ha.at).mono fun _ _ h => ⟨Go.Lib.toLowerA l, h.1, rfl, h.2⟩

set_option maxRecDepth 100000 in
set_option maxHeartbeats 1600000 in
theorem strnorm (l : List UInt8) (w : World) (hs : l.length ≤ 1000000) (ha : Ascii l) (htab : Go.Lib.TabIs Tryd.prog w "strings.asciiSpace" .u8 Go.Lib.asciiSpaceTab) :
    Calls Tryd.prog 25 #[.string ⟨l.toArray⟩] w fun e w' => ∃ m : List UInt8, e = .returned (.string ⟨m.toArray⟩) ∧ m = normC l ∧ Below w.heap.size w w' := by
  have hg : Tryd.prog.globalNamed "strings.asciiSpace" = some 0 := by kernel_rfl
  have H := Lib.hid (And.intro hs (And.intro ha (And.intro hg htab)))
  clear hs ha hg htab
  go_enter Tryd.func25, Tryd.ntmps25
  go_wp2_with fail
  refine (zzR l 46 _ H.out.1).mono ?_
  rintro e w1 ⟨m1, rfl, e1, hb1⟩
  have A1 := Lib.hid (And.intro e1 (And.intro hb1 (And.intro (show m1.length ≤ 1000000 by rw [e1]; exact Nat.le_trans (List.length_filter_le _ _) H.out.1) (show Ascii m1 by rw [e1]; exact H.out.2.1.filter _))))
  clear e1 hb1
  go_wp2_with fail
  refine (zzR m1 95 _ A1.out.2.2.1).mono ?_
  rintro e w2 ⟨m2, rfl, e2, hb2⟩
  have A2 := Lib.hid (And.intro e2 (And.intro (A1.out.2.1.trans (hb2.mono A1.out.2.1.size)) (And.intro (show m2.length ≤ 1000000 by rw [e2]; exact Nat.le_trans (List.length_filter_le _ _) A1.out.2.2.1) (show Ascii m2 by rw [e2]; exact A1.out.2.2.2.filter _))))
  clear e2 hb2
  go_wp2_with fail
  refine (zzR m2 45 _ A2.out.2.2.1).mono ?_
  rintro e w3 ⟨m3, rfl, e3, hb3⟩
  have A3 := Lib.hid (And.intro e3 (And.intro (A2.out.2.1.trans (hb3.mono A2.out.2.1.size)) (And.intro (show m3.length ≤ 1000000 by rw [e3]; exact Nat.le_trans (List.length_filter_le _ _) A2.out.2.2.1) (show Ascii m3 by rw [e3]; exact A2.out.2.2.2.filter _))))
  clear e3 hb3
  go_wp2_with fail
  refine (trimR m3 _ A3.out.2.2.1 A3.out.2.2.2 (Go.Joins.tab_stays H.out.2.2.1 H.out.2.2.2 A3.out.2.1 (Nat.le_refl _))).mono ?_
  rintro e w4 ⟨m4, rfl, e4, hb4⟩
  have A4 := Lib.hid (And.intro e4 (And.intro (A3.out.2.1.trans (hb4.mono A3.out.2.1.size)) (And.intro (show m4.length ≤ 1000000 by rw [e4]; exact Nat.le_trans (trim_len _) A3.out.2.2.1) (show Ascii m4 by rw [e4]; exact A3.out.2.2.2.trim))))
  clear e4 hb4
  go_wp2_with fail
  refine (lowerR m4 _ A4.out.2.2.1 A4.out.2.2.2).mono ?_
  rintro e w5 ⟨m5, rfl, e5, hb5⟩
  have A5 := Lib.hid (And.intro e5 (A4.out.2.1.trans (hb5.mono A4.out.2.1.size)))
  clear e5 hb5
  go_wp2
  go_ret
  exact ⟨m5, rfl, by rw [A5.out.1, A4.out.1, A3.out.1, A2.out.1, A1.out.1]; rfl, A5.out.2⟩
end Go.Proofs.YtpjoglnopfmjfaaDoor
