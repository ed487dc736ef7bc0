/- The five tables of Go's library that the rows of names list: a world that bears them; what a row's condition gives of the blanks' table. -/
import Derived.Test.YtpjoglnopfmjfaaDoorCards
import Derived.Test.YtpjoglnopfmjfaaDoorTie
import Derived.Test.YtpjoglnopfmjfaaDoorShelf
import Derived.WalkKit
import Derived.ProofKit
import Derived.OpenShut
import Derived.ChangeMaps5
import Derived.PinnedBridge
import Derived.Lib.LaidCaseMet
import Derived.Lib.LaidTab
import Derived.Deep.DeepHandedRow
import Derived.Deep.DeepWitnessRowRef
namespace Go.Proofs.YtpjoglnopfmjfaaDoor
open Go Go.RowKit

theorem laidVars_perm {P : Program} {w : World} {l l' : List (String × DataW Unit)} (h : l.Perm l') : ∀ ps, DataW.LaidVars P w l ps → ∃ ps', DataW.LaidVars P w l' ps' ∧ ps.Perm ps' := by
  induction h with
  | nil => exact fun ps h => ⟨ps, h, .refl _⟩
  | cons x _ ih =>
    rintro ps ⟨g, t, cs, fuel, p, q, h1, h2, h3, h4, h5, rfl⟩
    obtain ⟨q', h6, h7⟩ := ih q h5
    exact ⟨_, ⟨g, t, cs, fuel, p, q', h1, h2, h3, h4, h6, rfl⟩, h7.append_left _⟩
  | swap x y l =>
    rintro ps ⟨g, t, cs, fuel, p, q, h1, h2, h3, h4, ⟨g', t', cs', fuel', p', q', h1', h2', h3', h4', h5', rfl⟩, rfl⟩
    refine ⟨_, ⟨g', t', cs', fuel', p', _, h1', h2', h3', h4', ⟨g, t, cs, fuel, p, q', h1, h2, h3, h4, h5', rfl⟩, rfl⟩, ?_⟩
    simp only [← List.append_assoc]
    refine List.Perm.append_right _ ?_
    rw [List.append_assoc _ (MemPlace.row _ _) p', List.append_assoc _ (MemPlace.row _ _) p]
    exact List.perm_append_comm
  | trans _ _ ih1 ih2 =>
    intro ps h
    obtain ⟨p1, h1, h2⟩ := ih1 ps h
    obtain ⟨p2, h3, h4⟩ := ih2 p1 h1
    exact ⟨p2, h3, h2.trans h4⟩
theorem laidMet_perm {P : Program} {w : World} {l l' : List (String × DataW Unit)} (h : l.Perm l') (k : laidMet P l w) : laidMet P l' w := by
  obtain ⟨ps, h1, h2, h3⟩ := k
  obtain ⟨ps', h4, h5⟩ := laidVars_perm h ps h1
  exact ⟨ps', h4, h5.nodup_iff.1 h2, fun b off hm => h3 b off (h5.mem_iff.2 hm)⟩

theorem own : ownKnob Tryd.prog.godebug = none := by kernel_rfl
theorem laidOut : laidOutB Tryd.prog = true := by kernel_rfl
theorem gT : Tryd.prog.globalNamed "strings.asciiSpace" = some 0 := by kernel_rfl
theorem gTType : (Tryd.prog.globals[0]?).map (·.type) = some 65 := by kernel_rfl
theorem cellsU8n : Tryd.prog.cellsOf 5 = 1 := by kernel_rfl
theorem cells256 : Tryd.prog.cellsOf 65 = 256 := by kernel_rfl
abbrev laid5 : List (String × DataW Unit) := [("unicode/utf8.acceptRanges", Rows.laid_unicode_utf8_acceptRanges), ("unicode.White_Space", Rows.laid_unicode_White_Space), ("strings.asciiSpace", Rows.laid_strings_asciiSpace), ("unicode.CaseRanges", Rows.laid_unicode_CaseRanges), ("unicode/utf8.first", Rows.laid_unicode_utf8_first)]
/-- What a row's list gives: the blanks' table. -/
theorem tab_of_laid {W : World} (h : laidMet Tryd.prog laid5 W) : Go.Lib.TabIs Tryd.prog W "strings.asciiSpace" .u8 Go.Lib.asciiSpaceTab := by
  have hp : laid5.Perm (("strings.asciiSpace", Lib.tabData .u8 Lib.asciiSpaceTab) :: [("unicode/utf8.acceptRanges", Rows.laid_unicode_utf8_acceptRanges), ("unicode.White_Space", Rows.laid_unicode_White_Space), ("unicode.CaseRanges", Rows.laid_unicode_CaseRanges), ("unicode/utf8.first", Rows.laid_unicode_utf8_first)]) := by
    have e : (Rows.laid_strings_asciiSpace : DataW Unit) = Lib.tabData .u8 Lib.asciiSpaceTab := by kernel_rfl
    unfold laid5
    rw [e]
    exact (List.Perm.cons _ (List.Perm.swap _ _ _)).trans (List.Perm.swap _ _ _)
  exact Go.Lib.tabIs_of_head gT gTType Tryd.underlying65 Tryd.underlying5 cellsU8n cells256 (laidMet_perm hp h)

/-- The witness: the settled world with three blocks more (the ranges of blanks; their table; the rows of cases), the five variables holding what their own lines lay. -/
noncomputable def laidWorld (os : Os) : World :=
  let N := (World.settled Tryd.prog os).heap.size
  let w0 := World.holding Tryd.prog os ⟨#[.cells (Lib.whiteT.map fun (z : Nat) => Value.int .u16 (z : Int)).toArray (Tryd.lays163_ren.t 198), .cells #[.slice (some ⟨N, 0, none⟩) 7 7, .slice none 0 0, .int .i64 2] (Tryd.lays163_ren.t 196),
    .cells Lib.caseCells5 (Tryd.lays159_ren.t 208)], #[], []⟩
  let put (h : Array Obj) (g : Nat) (cs : Array Value) : Array Obj := h.modify g fun
    | .cells _ t frozen => .cells cs t frozen
    | o => o
  let h1 := put w0.heap 0 (Lib.asciiSpaceTab.map fun z => Value.int .u8 z).toArray
  let h2 := put h1 (Tryd.lays163_ren.g 3) (Lib.firstTab.map fun z => Value.int .u8 z).toArray
  let h3 := put h2 (Tryd.lays163_ren.g 4) ((List.range 16).flatMap fun i => [Value.int .u8 (Lib.accLo i), Value.int .u8 (Lib.accHi i)]).toArray
  let h4 := put h3 (Tryd.lays163_ren.g 6) #[.pointer (some ⟨N + 1, 0, none⟩)]
  let h5 := put h4 (Tryd.lays159_ren.g 13) #[.slice (some ⟨N + 2, 0, none⟩) 336 336]
  { w0 with heap := h5 }
theorem laid_met (os : Os) (args : Array Value) : laidMet Tryd.prog laid5 ((laidWorld os).forCall (fun _ _ => 0) ⟨#[], args, []⟩).memory := by
  have h := laidMet_with_case (ρ := Tryd.lays159_ren) (w := ((laidWorld os).forCall (fun _ _ => 0) ⟨#[], args, []⟩).memory) { Tryd.lays159 with } Tryd.lays159.t206 ⟨by kernel_rfl, by kernel_rfl, by kernel_rfl, by kernel_rfl, by kernel_rfl, by kernel_rfl⟩
    (l := [("unicode/utf8.acceptRanges", Rows.laid_unicode_utf8_acceptRanges), ("unicode.White_Space", Rows.laid_unicode_White_Space), ("strings.asciiSpace", Rows.laid_strings_asciiSpace), ("unicode/utf8.first", Rows.laid_unicode_utf8_first)])
    10 (by kernel_rfl) (by kernel_rfl) (by kernel_rfl) ((World.settled Tryd.prog default).heap.size + 2) (Tryd.lays159_ren.t 208) (of_decide_eq_true (by kernel_rfl)) (by kernel_rfl) (by kernel_rfl) (by kernel_rfl)
  refine laidMet_perm ?_ h
  have e : Lib.caseData = Rows.laid_unicode_CaseRanges := Pinned.caseRanges_eq.symm
  rw [e]
  exact .cons _ (.cons _ (.cons _ (.swap _ _ _)))
end Go.Proofs.YtpjoglnopfmjfaaDoor
