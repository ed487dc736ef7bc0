/- FnAgainTxnMetadataValue: whatever the tree (and whatever version is drawn), the law answers true: what is written of it is read, and written as the same. Asked of the start alone: that the package's error variable holds what its own line lays. Printed by acardgen.py. -/
import Derived.Test.YtmpilpgabelmiaaGreatDoorCards
import Derived.Test.YtmpilpgabelmiaaGreatDoorTie
import Derived.Test.YtmpilpgabelmiaaGreatDoorAgA
import Derived.Test.YtmpilpgabelmiaaGreatDoorMh
import Derived.WalkKit
import Derived.ProofKit
import Derived.OpenShut
import Derived.Carry
import Derived.Deep.DeepHandedRow
import Derived.Deep.DeepWitnessRowRef
import Derived.Stop.LaidErr
namespace Go.Proofs.YtmpilpgabelmiaaGreatDoor.fnAgainTxnMetadataValue
open Go.ChangeShapes Go.WideShapes Go.ChangeAt Go.RowKit

theorem wf_u16 {z : Int} (h : (Lit.int .u16 z).wf = true) : 0 ≤ z ∧ z ≤ 65535 := by
  simp [Lit.wf, IntKind.min, IntKind.max, IntKind.signed, IntKind.bits] at h
  omega

theorem own : ownKnob Tryz.prog.godebug = none := by kernel_rfl
theorem laidOut : laidOutB Tryz.prog = true := by kernel_rfl
theorem gE : Tryz.prog.globalNamed "pub-kmsg/pub/kmsg/inner/kbin.ErrNotEnoughData" = some 1 := by kernel_rfl
theorem gEType : (Tryz.prog.globals[1]?).map (·.type) = some 58 := by kernel_rfl
theorem cellsS : Tryz.prog.cellsOf 193 = 1 := by kernel_rfl
theorem cellsStr : Tryz.prog.cellsOf 9 = 1 := by kernel_rfl
theorem cellsB : Tryz.prog.cellsOf 5 = 1 := by kernel_rfl
theorem star : "*" ++ "errors.errorString" = "*errors.errorString" := by decide
theorem rowP (u : TypeId) (h : Tryz.prog.typeName? 3 u = some "*errors.errorString") : u = 175 :=
  typeName_ptr_named (nm := "errors.errorString") (by rw [star]; kernel_rfl) (by kernel_rfl) (by decide) u (by rw [star]; exact h)
/-- What the row's list gives: the variable holds an error. -/
theorem sentinel {W : World} (h : laidMetH Tryz.prog Rows.fnAgainTxnMetadataValueRow.laid W) : ∃ a, W.cell? ⟨1, 0, none⟩ = some (.iface 175 (.pointer (some a))) := by
  obtain ⟨a0, s0, hv0, -, -, -⟩ := laid_sentinel h gE gEType Tryz.underlying58 rowP Tryz.underlying175 Tryz.underlying193 rfl rfl Tryz.underlying9 cellsS cellsStr
  exact ⟨a0, by simpa using World.var?_cell gE hv0 0⟩

set_option maxRecDepth 100000 in
theorem contract (H : Type) (enc : TypeId × Value → H) (W : World) (base : Nat) (args : Array Value) (ds gs : List (DataW H)) (before : List MemPlace)
    (hval : ∀ (j : Nat) t v, Tryz.f3.params[j]? = some t → args[j]? = some v → Value.okWide Tryz.prog W .any base t v)
    (hW : DataW.Whole enc Tryz.prog Tryz.f3.params.toList Rows.fnAgainTxnMetadataValueSpec.vars false W args.toList ds gs before) (hL : laidMetH Tryz.prog Rows.fnAgainTxnMetadataValueRow.laid W) :
    Calls Tryz.prog 3 args W fun e W' => ∃ v, e = .returned v ∧ Rows.fnAgainTxnMetadataValueSpec.post enc Tryz.prog Tryz.f3 false true false false W args v W' := by
  have hW' := hW
  obtain ⟨p, q, hA0, hV, rfl, hfz, hnd⟩ := hW
  have hA : DataW.TrodAll enc Tryz.prog W 0 (fun _ => true) true Tryz.f3.params.toList args.toList ds p := hA0
  rw [Tryz.params3] at hA hval
  obtain ⟨v0, v1, d0, d1, p0, p1, rfl, rfl, rfl, h0, h1⟩ := trodAll_two hA
  obtain ⟨rfl, rfl⟩ := trodVars_none hV
  obtain ⟨n, rfl, rfl, rfl, wn⟩ := open_int Tryz.underlying5 (hval 0 5 v0 rfl rfl) h0
  obtain ⟨cs, rfl, -⟩ := okWide_struct Tryz.underlying26 (hval 1 26 v1 rfl rfl)
  clear hA0
  have hlt : ∀ x ∈ p1, x.block < W.heap.size := fun x hx => hW'.lt x (by simp [hx])
  obtain ⟨aE, hE⟩ := sentinel hL
  have hn := wf_u8 wn
  obtain ⟨fuel, hf⟩ := id h1
  obtain ⟨t, ht, hwt⟩ := tree_open fuel (show DataW.trod enc Tryz.prog W 0 (fun _ => true) true fuel 26 cs.toList = some (d1, p1) from hf)
  have hsz : ∀ ver : Int, (fixed ver 2 ++ pPartT ver (hasV 1 none ver) againTxnMetadataValue.fs7 t).length ≤ lim := by
    intro ver
    rw [List.length_append, show (fixed ver 2).length = 2 by simp [fixed, be16]]
    have h := pPartT_max ver (hasV 1 none ver) againTxnMetadataValue.fs7 t againTxnMetadataValue.fsNum
    have h3 : ∀ fl : Bool, 2 + (mx fl againTxnMetadataValue.fs7 + tgMax fl + againTxnMetadataValue.fs7.known * againTxnMetadataValue.fs7.len * 28) ≤ lim := by decide +kernel
    have h4 := h3 (hasV 1 none ver)
    omega
  have hlaw := againTxnMetadataValue.law n hn.1 hn.2 175 (.pointer (some aE)) W cs.toList t ht hE hsz
  rw [Array.toArray_toList] at hlaw
  refine hlaw.mono fun e W' ⟨he, hg⟩ => ?_
  subst he
  exact ⟨_, rfl, _, _, _, [], [] ++ (p1 ++ []), [], hW', trodAll_cons_mk (shut_bool Tryz.underlying4 _) trodAll_mk0, trodAll_cons_mk (shut_int Tryz.underlying5 wn) (trodAll_cons_mk (Below.trod laidOut (by kernel_rfl) (of_decide_eq_true (by kernel_rfl)) h1 hg hlt) trodAll_mk0), rfl, hg.frame _, fun h => by cases h⟩

abbrev errS : ByteArray := { data := #[114, 101, 115, 112, 111, 110, 115, 101, 32, 100, 105, 100, 32, 110, 111, 116, 32, 99, 111, 110, 116, 97, 105, 110, 32, 101, 110, 111, 117, 103, 104, 32, 100, 97, 116, 97, 32, 116, 111, 32, 98, 101, 32, 118, 97, 108, 105, 100] }
noncomputable def low : Nat := (World.holding Tryz.prog default ⟨#[], #[], []⟩).heap.size
/-- A world for the witness: the settled one, the variable holding what its own line lays. -/
noncomputable def laidWorld (os : Os) : World :=
  let w0 := World.holding Tryz.prog os ⟨#[.cells #[.string errS] 193], #[], []⟩
  { w0 with heap := w0.heap.modify 1 fun
      | .cells _ t frozen => .cells #[.iface 175 (.pointer (some ⟨low, 0, none⟩))] t frozen
      | o => o }
abbrev wArgs : Array Value := #[.int .u8 0, .agg #[.int .i64 0, .slice none 0 0, .bool false, .slice none 0 0, .slice none 0 0]]
theorem laid_met (os : Os) : laidMet Tryz.prog Rows.fnAgainTxnMetadataValueRow.laid ((laidWorld os).forCall (fun _ _ => 0) ⟨#[], wArgs, []⟩).memory :=
  laidMet_of_run (ps := [.cell 1 0, .cell low 0]) 8 (by kernel_rfl) (by kernel_rfl) (by kernel_rfl)
theorem reads (os : Os) {H : Type} (enc : TypeId × Value → H) : ∃ places, DataW.whole enc Tryz.prog ((laidWorld os).forCall (fun _ _ => 0) ⟨#[], wArgs, []⟩).memory Tryz.f3.params.toList Rows.fnAgainTxnMetadataValueSpec.vars false wArgs.toList 8 = some ([.lit (.int .u8 0), .agg [.lit (.int .i64 0), .nil, .lit (.bool false), .nil, .nil]], [], places) :=
  ⟨[], by kernel_rfl⟩

set_option maxRecDepth 100000 in
theorem lifted (os : Os) (started : os.Started) (H : Type) (enc : TypeId × Value → H) (F : Stop.Interp) :
    ReturnsInHanded {} Tryz.checked os 3 .any ((OpenSpec.ofChange Rows.fnAgainTxnMetadataValueSpec).preRow enc Tryz.prog Tryz.f3 Rows.fnAgainTxnMetadataValueRow.domain false Rows.fnAgainTxnMetadataValueRow.laid) (((OpenSpec.ofChange Rows.fnAgainTxnMetadataValueSpec).at F).post enc Tryz.prog Tryz.f3 false true false false) := by
  obtain ⟨places, hx⟩ := reads os enc
  refine returnsInHanded_of_row (C := Tryz.checked) (s := (OpenSpec.ofChange Rows.fnAgainTxnMetadataValueSpec)) own started (by kernel_rfl) Tryz.func3
    (witness_row_atRef (enc := enc) (C := Tryz.checked) false (laidWorld os) wArgs rfl (by kernel_rfl) (by kernel_rfl) (by kernel_rfl)
      (OpenSpec.preRow_of_cond 8 hx (by kernel_rfl) (fun k hk => by cases hk) (by kernel_rfl) (laid_met os))) ?_
  intro W base args ds gs before hval hW _ hcond _ hL _ _
  exact contract H enc W base args ds gs before hval hW hL

set_option maxRecDepth 100000 in
set_option maxHeartbeats 16000000 in
theorem facts : joinedFacts Tryz.pinned.checked.prog 3 Tryz.f3 ((OpenSpec.ofChange Rows.fnAgainTxnMetadataValueSpec)).bare Rows.fnAgainTxnMetadataValueRow = true := by
  simp only [joinedFacts, Bool.and_eq_true]
  repeat' apply And.intro
  all_goals (as_aux_lemma => kernel_rfl)
theorem said : Rows.FnAgainTxnMetadataValueSaid :=
  OpenClaim.holds_of_cond 3 Tryz.f3 rfl rfl rfl rfl rfl rfl rfl ⟨rfl, rfl, rfl, rfl, rfl⟩ rfl rfl rfl rfl rfl (by as_aux_lemma => kernel_rfl) Tryz.func3 facts
    (by as_aux_lemma => exact of_decide_eq_true (by kernel_rfl)) (by as_aux_lemma => unfold Func.isWrapper; first | (rw [if_pos (by decide +kernel)]; kernel_rfl) | (rw [if_neg (by decide +kernel)]; exact ⟨rfl, rfl⟩))
    (fun os started H enc _ F => by rw [OpenClaim.pre_eq_preRow]; exact lifted os started H enc F)

theorem plain (f : FuncId) (fn : Func) (hf : Tryz.pinned.checked.prog.funcNamed "pub-kmsg/laws.FnAgainTxnMetadataValue" = some f) (hfn : Tryz.pinned.checked.prog.funcs[f]? = some fn) :
    false = Tryz.pinned.checked.prog.looks [] ∧ ∀ (j : Nat) t, fn.params[j]? = some t → Tryz.pinned.checked.prog.wantsStandIn t = false := by
  obtain rfl : f = 3 := Option.some.inj ((show Tryz.prog.funcNamed "pub-kmsg/laws.FnAgainTxnMetadataValue" = some 3 by kernel_rfl).symm.trans hf) |>.symm
  obtain rfl : fn = Tryz.f3 := (Option.some.inj (Tryz.func3.symm.trans hfn)).symm
  refine ⟨by kernel_rfl, fun j t ht => ?_⟩
  rw [Tryz.params3] at ht
  have h : t = 5 ∨ t = 26 := by simpa using Array.mem_of_getElem? ht
  rcases h with rfl | rfl
  · exact (show Tryz.prog.wantsStandIn 5 = false by kernel_rfl)
  · exact (show Tryz.prog.wantsStandIn 26 = false by kernel_rfl)

/-- The card. -/
theorem proved : Rows.FnAgainTxnMetadataValueCardSaid :=
  Claim7.holds_tied_plain_at .later [] _ _ _ _ said (fun _ h => by cases h) (by as_aux_lemma => kernel_rfl) (fun _ h => by cases h) fnAgainTxnMetadataValue_row_tie rfl ⟨rfl, rfl⟩ (by as_aux_lemma => kernel_rfl) rfl plain (by as_aux_lemma => kernel_rfl)
#print axioms proved
end Go.Proofs.YtmpilpgabelmiaaGreatDoor.fnAgainTxnMetadataValue
