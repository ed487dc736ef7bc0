/- FnAnyGroupMetadataValue: whatever the octets (and whatever version is drawn), the law answers true: what is read is written as octets that are read again, and written as the same. Asked of the start alone: that the package's error variable holds what its own line lays. Printed by cardgen.py. -/
import Derived.Test.YtkhpglongkhbjaaGreatDoorRCards
import Derived.Test.YtkhpglongkhbjaaGreatDoorRTie
import Derived.Test.YtkhpglongkhbjaaGreatDoorRAnyA
import Derived.Test.YtkhpglongkhbjaaGreatDoorRMg
import Derived.WalkKit
import Derived.ProofKit
import Derived.OpenShut
import Derived.Carry
import Derived.Deep.DeepHandedRow
import Derived.Deep.DeepWitnessRowRef
import Derived.Stop.LaidErr
namespace Go.Proofs.YtkhpglongkhbjaaGreatDoorR.fnAnyGroupMetadataValue
open Go.ChangeShapes Go.WideShapes Go.ChangeAt Go.RowKit

theorem own : ownKnob Tryz.prog.godebug = none := by kernel_rfl
theorem laidOut : laidOutB Tryz.prog = true := by kernel_rfl
theorem gE : Tryz.prog.globalNamed "pub-kmsg/pub/kmsg/inner/kbin.ErrNotEnoughData" = some 1 := by kernel_rfl
theorem gEType : (Tryz.prog.globals[1]?).map (·.type) = some 46 := by kernel_rfl
theorem cellsS : Tryz.prog.cellsOf 167 = 1 := by kernel_rfl
theorem cellsStr : Tryz.prog.cellsOf 9 = 1 := by kernel_rfl
theorem cellsB : Tryz.prog.cellsOf 5 = 1 := by kernel_rfl
theorem star : "*" ++ "errors.errorString" = "*errors.errorString" := by decide
theorem rowP (u : TypeId) (h : Tryz.prog.typeName? 3 u = some "*errors.errorString") : u = 149 :=
  typeName_ptr_named (nm := "errors.errorString") (by rw [star]; kernel_rfl) (by kernel_rfl) (by decide) u (by rw [star]; exact h)
/-- What the row's list gives: the variable holds an error. -/
theorem sentinel {W : World} (h : laidMetH Tryz.prog Rows.fnAnyGroupMetadataValueRow.laid W) : ∃ a, W.cell? ⟨1, 0, none⟩ = some (.iface 149 (.pointer (some a))) := by
  obtain ⟨a0, s0, hv0, -, -, -⟩ := laid_sentinel h gE gEType Tryz.underlying46 rowP Tryz.underlying149 Tryz.underlying167 rfl rfl Tryz.underlying9 cellsS cellsStr
  exact ⟨a0, by simpa using World.var?_cell gE hv0 0⟩

set_option maxRecDepth 100000 in
theorem contract (H : Type) (enc : TypeId × Value → H) (W : World) (base : Nat) (args : Array Value) (ds gs : List (DataW H)) (before : List MemPlace)
    (hval : ∀ (j : Nat) t v, Tryz.f3.params[j]? = some t → args[j]? = some v → Value.okWide Tryz.prog W .any base t v)
    (hW : DataW.Whole enc Tryz.prog Tryz.f3.params.toList Rows.fnAnyGroupMetadataValueSpec.vars false W args.toList ds gs before) (hL : laidMetH Tryz.prog Rows.fnAnyGroupMetadataValueRow.laid W) :
    Calls Tryz.prog 3 args W fun e W' => ∃ v, e = .returned v ∧ Rows.fnAnyGroupMetadataValueSpec.post enc Tryz.prog Tryz.f3 false true false false W args v W' := by
  have hW' := hW
  obtain ⟨p, q, hA0, hV, rfl, hfz, hnd⟩ := hW
  have hA : DataW.TrodAll enc Tryz.prog W 0 (fun _ => true) true Tryz.f3.params.toList args.toList ds p := hA0
  rw [Tryz.params3] at hA hval
  obtain ⟨v1, d1, rfl, rfl, h1⟩ := trodAll_one hA
  obtain ⟨rfl, rfl⟩ := trodVars_none hV
  obtain ⟨a0, len, cap, rfl⟩ := okWide_slice Tryz.underlying22 (hval 0 22 v1 rfl rfl)
  clear hA0
  have hlt : ∀ x ∈ p, x.block < W.heap.size := fun x hx => hW'.lt x (by simp [hx])
  obtain ⟨aE, hE⟩ := sentinel hL
  have main : ∀ bs, RB [] W (.slice a0 len cap) bs → Calls Tryz.prog 3 #[.slice a0 len cap] W fun e W' => ∃ v, e = .returned v ∧ Rows.fnAnyGroupMetadataValueSpec.post enc Tryz.prog Tryz.f3 false true false false W #[.slice a0 len cap] v W' := by
    intro bs hb
    refine (anyGroupMetadataValue.law 149 (.pointer (some aE)) W _ bs hb hE).mono fun e W' ⟨he, hg⟩ => ?_
    subst he
    exact ⟨_, rfl, _, _, _, [], p ++ [], [], hW', trodAll_cons_mk (shut_bool Tryz.underlying4 _) trodAll_mk0, trodAll_cons_mk (Below.trod laidOut (by kernel_rfl) (of_decide_eq_true (by kernel_rfl)) h1 hg hlt) trodAll_mk0, rfl, hg.frame _, fun h => by cases h⟩
  obtain ⟨fuel, hf⟩ := id h1
  rcases open_ints Tryz.underlying22 Tryz.underlying5 cellsB hf with ⟨hcs, hx⟩ | ⟨a, len', cap', zs, hcs, _, hl, hm, hz, hx, hcell, hwz⟩
  · simp [Value.cells] at hcs
    obtain ⟨rfl, rfl, rfl⟩ := hcs
    exact main [] (RB.nil _ _)
  · simp [Value.cells] at hcs
    obtain ⟨rfl, rfl, rfl⟩ := hcs
    simp only [if_true] at hz
    obtain ⟨bs, -, hb⟩ := rb_of_ints hl hm (by omega) hcell hwz
    exact main bs hb

abbrev errS : ByteArray := { data := #[114, 101, 115, 112, 111, 110, 115, 101, 32, 100, 105, 100, 32, 110, 111, 116, 32, 99, 111, 110, 116, 97, 105, 110, 32, 101, 110, 111, 117, 103, 104, 32, 100, 97, 116, 97, 32, 116, 111, 32, 98, 101, 32, 118, 97, 108, 105, 100] }
noncomputable def low : Nat := (World.holding Tryz.prog default ⟨#[], #[], []⟩).heap.size
/-- A world for the witness: the settled one, the variable holding what its own line lays. -/
noncomputable def laidWorld (os : Os) : World :=
  let w0 := World.holding Tryz.prog os ⟨#[.cells #[.string errS] 167], #[], []⟩
  { w0 with heap := w0.heap.modify 1 fun
      | .cells _ t frozen => .cells #[.iface 149 (.pointer (some ⟨low, 0, none⟩))] t frozen
      | o => o }
abbrev wArgs : Array Value := #[.slice none 0 0]
theorem laid_met (os : Os) : laidMet Tryz.prog Rows.fnAnyGroupMetadataValueRow.laid ((laidWorld os).forCall (fun _ _ => 0) ⟨#[], wArgs, []⟩).memory :=
  laidMet_of_run (ps := [.cell 1 0, .cell low 0]) 8 (by kernel_rfl) (by kernel_rfl) (by kernel_rfl)
theorem reads (os : Os) {H : Type} (enc : TypeId × Value → H) : ∃ places, DataW.whole enc Tryz.prog ((laidWorld os).forCall (fun _ _ => 0) ⟨#[], wArgs, []⟩).memory Tryz.f3.params.toList Rows.fnAnyGroupMetadataValueSpec.vars false wArgs.toList 8 = some ([.nil], [], places) :=
  ⟨[], by kernel_rfl⟩

set_option maxRecDepth 100000 in
theorem lifted (os : Os) (started : os.Started) (H : Type) (enc : TypeId × Value → H) (F : Stop.Interp) :
    ReturnsInHanded {} Tryz.checked os 3 .any ((OpenSpec.ofChange Rows.fnAnyGroupMetadataValueSpec).preRow enc Tryz.prog Tryz.f3 Rows.fnAnyGroupMetadataValueRow.domain false Rows.fnAnyGroupMetadataValueRow.laid) (((OpenSpec.ofChange Rows.fnAnyGroupMetadataValueSpec).at F).post enc Tryz.prog Tryz.f3 false true false false) := by
  obtain ⟨places, hx⟩ := reads os enc
  refine returnsInHanded_of_row (C := Tryz.checked) (s := OpenSpec.ofChange Rows.fnAnyGroupMetadataValueSpec) own started (by kernel_rfl) Tryz.func3
    (witness_row_atRef (enc := enc) (C := Tryz.checked) false (laidWorld os) wArgs rfl (by kernel_rfl) (by kernel_rfl) (by kernel_rfl)
      (OpenSpec.preRow_of_cond 8 hx (by kernel_rfl) (fun k hk => by cases hk) (by kernel_rfl) (laid_met os))) ?_
  intro W base args ds gs before hval hW _ _ _ hL _ _
  exact contract H enc W base args ds gs before hval hW hL

set_option maxRecDepth 100000 in
set_option maxHeartbeats 16000000 in
theorem facts : joinedFacts Tryz.pinned.checked.prog 3 Tryz.f3 (OpenSpec.ofChange Rows.fnAnyGroupMetadataValueSpec).bare Rows.fnAnyGroupMetadataValueRow = true := by
  simp only [joinedFacts, Bool.and_eq_true]
  repeat' apply And.intro
  all_goals (as_aux_lemma => kernel_rfl)
theorem said : Rows.FnAnyGroupMetadataValueSaid :=
  OpenClaim.holds_of_cond 3 Tryz.f3 rfl rfl rfl rfl rfl rfl rfl ⟨rfl, rfl, rfl, rfl, rfl⟩ rfl rfl rfl rfl rfl (by as_aux_lemma => kernel_rfl) Tryz.func3 facts
    (by as_aux_lemma => exact of_decide_eq_true (by kernel_rfl)) (by as_aux_lemma => unfold Func.isWrapper; first | (rw [if_pos (by decide +kernel)]; kernel_rfl) | (rw [if_neg (by decide +kernel)]; exact ⟨rfl, rfl⟩))
    (fun os started H enc _ F => by rw [OpenClaim.pre_eq_preRow]; exact lifted os started H enc F)

theorem plain (f : FuncId) (fn : Func) (hf : Tryz.pinned.checked.prog.funcNamed "pub-kmsg/laws.FnAnyGroupMetadataValue" = some f) (hfn : Tryz.pinned.checked.prog.funcs[f]? = some fn) :
    false = Tryz.pinned.checked.prog.looks [] ∧ ∀ (j : Nat) t, fn.params[j]? = some t → Tryz.pinned.checked.prog.wantsStandIn t = false := by
  obtain rfl : f = 3 := Option.some.inj ((show Tryz.prog.funcNamed "pub-kmsg/laws.FnAnyGroupMetadataValue" = some 3 by kernel_rfl).symm.trans hf) |>.symm
  obtain rfl : fn = Tryz.f3 := (Option.some.inj (Tryz.func3.symm.trans hfn)).symm
  refine ⟨by kernel_rfl, fun j t ht => ?_⟩
  rw [Tryz.params3] at ht
  have h : t = 22 := by simpa using Array.mem_of_getElem? ht
  subst h
  exact (show Tryz.prog.wantsStandIn 22 = false by kernel_rfl)

/-- The card. -/
theorem proved : Rows.FnAnyGroupMetadataValueCardSaid :=
  Claim7.holds_tied_plain_at .later [] _ _ _ _ said (fun _ h => by cases h) (by as_aux_lemma => kernel_rfl) (fun _ h => by cases h) fnAnyGroupMetadataValue_row_tie rfl ⟨rfl, rfl⟩ (by as_aux_lemma => kernel_rfl) rfl plain (by as_aux_lemma => kernel_rfl)
#print axioms proved
end Go.Proofs.YtkhpglongkhbjaaGreatDoorR.fnAnyGroupMetadataValue
