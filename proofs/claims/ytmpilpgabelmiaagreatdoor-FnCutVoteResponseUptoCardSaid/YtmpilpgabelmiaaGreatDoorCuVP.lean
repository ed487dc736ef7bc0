/- FnCutVoteResponse: whatever the tree (and whatever version is drawn), the law answers true: what is written of it is an error, if it is cut anywhere. (Of trees of bulk at most 1048576.) Asked of the start alone: that the package's error variable holds what its own line lays. Printed by acardgen.py. -/
import Derived.Test.YtmpilpgabelmiaaGreatDoorCards
import Derived.Test.YtmpilpgabelmiaaGreatDoorTie
import Derived.Test.YtmpilpgabelmiaaGreatDoorCuV
import Derived.Test.YtmpilpgabelmiaaGreatDoorVh
import Derived.WalkKit
import Derived.ProofKit
import Derived.OpenShut
import Derived.Carry
import Derived.Deep.DeepHandedRow
import Derived.Deep.DeepWitnessRowRef
import Derived.Stop.LaidErr
namespace Go.Proofs.YtmpilpgabelmiaaGreatDoor.fnCutVoteResponse
open Go.ChangeShapes Go.WideShapes Go.ChangeAt Go.RowKit

theorem wf_u16 {z : Int} (h : (Lit.int .u16 z).wf = true) : 0 ≤ z ∧ z ≤ 65535 := by
  simp [Lit.wf, IntKind.min, IntKind.max, IntKind.signed, IntKind.bits] at h
  omega

theorem own : ownKnob Tryz.prog.godebug = none := by kernel_rfl
theorem laidOut : laidOutB Tryz.prog = true := by kernel_rfl
theorem gE : Tryz.prog.globalNamed "pub-kmsg/pub/kmsg/inner/kbin.ErrNotEnoughData" = some 1 := by kernel_rfl
theorem gEType : (Tryz.prog.globals[1]?).map (·.type) = some 58 := by kernel_rfl
theorem cellsS : Tryz.prog.cellsOf 193 = 1 := by kernel_rfl
theorem cellsStr : Tryz.prog.cellsOf 9 = 1 := by kernel_rfl
theorem cellsB : Tryz.prog.cellsOf 5 = 1 := by kernel_rfl
theorem star : "*" ++ "errors.errorString" = "*errors.errorString" := by decide
theorem rowP (u : TypeId) (h : Tryz.prog.typeName? 3 u = some "*errors.errorString") : u = 175 :=
  typeName_ptr_named (nm := "errors.errorString") (by rw [star]; kernel_rfl) (by kernel_rfl) (by decide) u (by rw [star]; exact h)
/-- What the row's list gives: the variable holds an error. -/
theorem sentinel {W : World} (h : laidMetH Tryz.prog Rows.fnCutVoteResponseUptoRow.laid W) : ∃ a, W.cell? ⟨1, 0, none⟩ = some (.iface 175 (.pointer (some a))) := by
  obtain ⟨a0, s0, hv0, -, -, -⟩ := laid_sentinel h gE gEType Tryz.underlying58 rowP Tryz.underlying175 Tryz.underlying193 rfl rfl Tryz.underlying9 cellsS cellsStr
  exact ⟨a0, by simpa using World.var?_cell gE hv0 0⟩

set_option maxRecDepth 100000 in
theorem contract (H : Type) (enc : TypeId × Value → H) (W : World) (base : Nat) (args : Array Value) (ds gs : List (DataW H)) (before : List MemPlace)
    (hval : ∀ (j : Nat) t v, Tryz.f4.params[j]? = some t → args[j]? = some v → Value.okWide Tryz.prog W .any base t v)
    (hW : DataW.Whole enc Tryz.prog Tryz.f4.params.toList Rows.fnCutVoteResponseSpec.vars false W args.toList ds gs before) (hL : laidMetH Tryz.prog Rows.fnCutVoteResponseUptoRow.laid W) (hk : Rows.uptoSmall H (ds ++ gs) = true) :
    Calls Tryz.prog 4 args W fun e W' => ∃ v, e = .returned v ∧ Rows.fnCutVoteResponseSpec.post enc Tryz.prog Tryz.f4 false true false false W args v W' := by
  have hW' := hW
  obtain ⟨p, q, hA0, hV, rfl, hfz, hnd⟩ := hW
  have hA : DataW.TrodAll enc Tryz.prog W 0 (fun _ => true) true Tryz.f4.params.toList args.toList ds p := hA0
  rw [Tryz.params4] at hA hval
  obtain ⟨v0, v1, v2, d0, d1, d2, p0, p1, p2, rfl, rfl, rfl, h0, h1, h2⟩ := trodAll_three hA
  obtain ⟨rfl, rfl⟩ := trodVars_none hV
  obtain ⟨n, rfl, rfl, rfl, wn⟩ := open_int Tryz.underlying5 (hval 0 5 v0 rfl rfl) h0
  obtain ⟨m, rfl, rfl, rfl, wm⟩ := open_int Tryz.underlying37 (hval 2 37 v2 rfl rfl) h2
  obtain ⟨cs, rfl, -⟩ := okWide_struct Tryz.underlying26 (hval 1 26 v1 rfl rfl)
  clear hA0
  have hlt : ∀ x ∈ p1, x.block < W.heap.size := fun x hx => hW'.lt x (by simp [hx])
  obtain ⟨aE, hE⟩ := sentinel hL
  have hn := wf_u8 wn
  obtain ⟨fuel, hf⟩ := id h1
  obtain ⟨t, ht, hwt⟩ := tree_open fuel (show DataW.trod enc Tryz.prog W 0 (fun _ => true) true fuel 26 cs.toList = some (d1, p1) from hf)
  have hsz : ∀ ver : Int, (pPartT ver (hasV 0 none ver) cutVoteResponse.fs12 t).length ≤ lim := by
    intro ver
    have h := pPartT_wt ver (hasV 0 none ver) cutVoteResponse.fs12 t
    have hb : Rows.uptoBulk d1 ≤ 1048576 := by
      have h := of_decide_eq_true hk
      simp only [List.append_nil, Rows.uptoBulkAll] at h
      omega
    have h2 := Nat.mul_le_mul_left (cz cutVoteResponse.fs12 + (31 + cutVoteResponse.fs12.known * (cz cutVoteResponse.fs12 + 20 * cutVoteResponse.fs12.len))) (Nat.le_trans hwt hb)
    have h3 : (cz cutVoteResponse.fs12 + (31 + cutVoteResponse.fs12.known * (cz cutVoteResponse.fs12 + 20 * cutVoteResponse.fs12.len))) * 1048576 ≤ lim := by decide +kernel
    omega
  have hlaw := cutVoteResponse.law n hn.1 hn.2 m (wf_u16 wm).1 (wf_u16 wm).2 175 (.pointer (some aE)) W cs.toList t ht hE hsz
  rw [Array.toArray_toList] at hlaw
  refine hlaw.mono fun e W' ⟨he, hg⟩ => ?_
  subst he
  exact ⟨_, rfl, _, _, _, [], [] ++ (p1 ++ ([] ++ [])), [], hW', trodAll_cons_mk (shut_bool Tryz.underlying4 _) trodAll_mk0, trodAll_cons_mk (shut_int Tryz.underlying5 wn) (trodAll_cons_mk (Below.trod laidOut (by kernel_rfl) (of_decide_eq_true (by kernel_rfl)) h1 hg hlt) (trodAll_cons_mk (shut_int Tryz.underlying37 wm) trodAll_mk0)), rfl, hg.frame _, fun h => by cases h⟩

abbrev errS : ByteArray := { data := #[114, 101, 115, 112, 111, 110, 115, 101, 32, 100, 105, 100, 32, 110, 111, 116, 32, 99, 111, 110, 116, 97, 105, 110, 32, 101, 110, 111, 117, 103, 104, 32, 100, 97, 116, 97, 32, 116, 111, 32, 98, 101, 32, 118, 97, 108, 105, 100] }
noncomputable def low : Nat := (World.holding Tryz.prog default ⟨#[], #[], []⟩).heap.size
/-- A world for the witness: the settled one, the variable holding what its own line lays. -/
noncomputable def laidWorld (os : Os) : World :=
  let w0 := World.holding Tryz.prog os ⟨#[.cells #[.string errS] 193], #[], []⟩
  { w0 with heap := w0.heap.modify 1 fun
      | .cells _ t frozen => .cells #[.iface 175 (.pointer (some ⟨low, 0, none⟩))] t frozen
      | o => o }
abbrev wArgs : Array Value := #[.int .u8 0, .agg #[.int .i64 0, .slice none 0 0, .bool false, .slice none 0 0, .slice none 0 0], .int .u16 0]
theorem laid_met (os : Os) : laidMet Tryz.prog Rows.fnCutVoteResponseUptoRow.laid ((laidWorld os).forCall (fun _ _ => 0) ⟨#[], wArgs, []⟩).memory :=
  laidMet_of_run (ps := [.cell 1 0, .cell low 0]) 8 (by kernel_rfl) (by kernel_rfl) (by kernel_rfl)
theorem reads (os : Os) {H : Type} (enc : TypeId × Value → H) : ∃ places, DataW.whole enc Tryz.prog ((laidWorld os).forCall (fun _ _ => 0) ⟨#[], wArgs, []⟩).memory Tryz.f4.params.toList Rows.fnCutVoteResponseSpec.vars false wArgs.toList 8 = some ([.lit (.int .u8 0), .agg [.lit (.int .i64 0), .nil, .lit (.bool false), .nil, .nil], .lit (.int .u16 0)], [], places) :=
  ⟨[], by kernel_rfl⟩

set_option maxRecDepth 100000 in
theorem lifted (os : Os) (started : os.Started) (H : Type) (enc : TypeId × Value → H) (F : Stop.Interp) :
    ReturnsInHanded {} Tryz.checked os 4 .any ((Rows.OpenSpec.upto Rows.fnCutVoteResponseSpec).preRow enc Tryz.prog Tryz.f4 Rows.fnCutVoteResponseUptoRow.domain false Rows.fnCutVoteResponseUptoRow.laid) (((Rows.OpenSpec.upto Rows.fnCutVoteResponseSpec).at F).post enc Tryz.prog Tryz.f4 false true false false) := by
  obtain ⟨places, hx⟩ := reads os enc
  refine returnsInHanded_of_row (C := Tryz.checked) (s := (Rows.OpenSpec.upto Rows.fnCutVoteResponseSpec)) own started (by kernel_rfl) Tryz.func4
    (witness_row_atRef (enc := enc) (C := Tryz.checked) false (laidWorld os) wArgs rfl (by kernel_rfl) (by kernel_rfl) (by kernel_rfl)
      (OpenSpec.preRow_of_cond 8 hx (by kernel_rfl) (fun k hk => by cases hk; kernel_rfl) (by kernel_rfl) (laid_met os))) ?_
  intro W base args ds gs before hval hW _ hcond _ hL _ _
  exact contract H enc W base args ds gs before hval hW hL (hcond _ rfl)

set_option maxRecDepth 100000 in
set_option maxHeartbeats 16000000 in
theorem facts : joinedFacts Tryz.pinned.checked.prog 4 Tryz.f4 ((Rows.OpenSpec.upto Rows.fnCutVoteResponseSpec)).bare Rows.fnCutVoteResponseUptoRow = true := by
  simp only [joinedFacts, Bool.and_eq_true]
  repeat' apply And.intro
  all_goals (as_aux_lemma => kernel_rfl)
theorem said : Rows.FnCutVoteResponseUptoSaid :=
  OpenClaim.holds_of_cond 4 Tryz.f4 rfl rfl rfl rfl rfl rfl rfl ⟨rfl, rfl, rfl, rfl, rfl⟩ rfl rfl rfl rfl rfl (by as_aux_lemma => kernel_rfl) Tryz.func4 facts
    (by as_aux_lemma => exact of_decide_eq_true (by kernel_rfl)) (by as_aux_lemma => unfold Func.isWrapper; first | (rw [if_pos (by decide +kernel)]; kernel_rfl) | (rw [if_neg (by decide +kernel)]; exact ⟨rfl, rfl⟩))
    (fun os started H enc _ F => by rw [OpenClaim.pre_eq_preRow]; exact lifted os started H enc F)

theorem plain (f : FuncId) (fn : Func) (hf : Tryz.pinned.checked.prog.funcNamed "pub-kmsg/laws.FnCutVoteResponse" = some f) (hfn : Tryz.pinned.checked.prog.funcs[f]? = some fn) :
    false = Tryz.pinned.checked.prog.looks [] ∧ ∀ (j : Nat) t, fn.params[j]? = some t → Tryz.pinned.checked.prog.wantsStandIn t = false := by
  obtain rfl : f = 4 := Option.some.inj ((show Tryz.prog.funcNamed "pub-kmsg/laws.FnCutVoteResponse" = some 4 by kernel_rfl).symm.trans hf) |>.symm
  obtain rfl : fn = Tryz.f4 := (Option.some.inj (Tryz.func4.symm.trans hfn)).symm
  refine ⟨by kernel_rfl, fun j t ht => ?_⟩
  rw [Tryz.params4] at ht
  have h : t = 5 ∨ t = 26 ∨ t = 37 := by simpa using Array.mem_of_getElem? ht
  rcases h with rfl | rfl | rfl
  · exact (show Tryz.prog.wantsStandIn 5 = false by kernel_rfl)
  · exact (show Tryz.prog.wantsStandIn 26 = false by kernel_rfl)
  · exact (show Tryz.prog.wantsStandIn 37 = false by kernel_rfl)

/-- The card. -/
theorem proved : Rows.FnCutVoteResponseUptoCardSaid :=
  Claim7.holds_tied_plain_at .later [] _ _ _ _ said (fun _ h => by cases h) (by as_aux_lemma => kernel_rfl) (fun _ h => by cases h) fnCutVoteResponseUpto_row_tie rfl ⟨rfl, rfl⟩ (by as_aux_lemma => kernel_rfl) rfl plain (by as_aux_lemma => kernel_rfl)
#print axioms proved
end Go.Proofs.YtmpilpgabelmiaaGreatDoor.fnCutVoteResponse
