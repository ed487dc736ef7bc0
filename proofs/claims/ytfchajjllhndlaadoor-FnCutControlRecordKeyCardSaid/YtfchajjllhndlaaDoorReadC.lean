/- The functions readFrom and AppendTo of some messages. Printed by readgen.py. -/
import Derived.Test.YtfchajjllhndlaaDoorMe
import Derived.Test.YtfchajjllhndlaaDoorMg
import Derived.Test.YtfchajjllhndlaaDoorRe
import Derived.Test.YtfchajjllhndlaaDoorKp
namespace Go.Proofs.YtfchajjllhndlaaDoor
open Go Go.RowKit
set_option linter.unusedVariables false
def schControlRecordKeyR : Sch := (.cons 1 0 none (.leaf .i16) .done)
/-- What a ControlRecordKey has. -/
def schControlRecordKey : Sch := (.cons 0 0 none (.leaf .i16) (.cons 1 0 none (.leaf .i16) .done))
theorem fa_61_0 : FieldAt Tryd.prog 61 0 0 := fieldAt_mk (ft := 43) (i := Tryd.t43) Tryd.underlying61 rfl (by kernel_rfl) (by decide)
theorem fa_61_1 : FieldAt Tryd.prog 61 1 1 := fieldAt_mk (ft := 59) (i := Tryd.t59) Tryd.underlying61 rfl (by kernel_rfl) (by decide)
theorem oc_43 : OneCell Tryd.prog 43 := ⟨fun w => Tryd.isAgg43 w, ⟨Tryd.t43, by kernel_rfl, rfl⟩⟩
theorem oc_59 : OneCell Tryd.prog 59 := ⟨fun w => Tryd.isAgg59 w, ⟨Tryd.t59, by kernel_rfl, rfl⟩⟩
theorem def_68 (w : World) (b o T : Nat) (cs : List Value) (hB : Blk w b cs T) (hF : Fresh cs o schControlRecordKeyR) : DefT Tryd.prog 68 b o T 0 schControlRecordKeyR w := DefW.defT (nt := 2) (n := 1) Tryd.func68 rfl rfl (by decide) rfl DefW.skip (by decide) w b o T cs hB hF
set_option maxRecDepth 100000 in
set_option maxHeartbeats 2000000 in
theorem appendControlRecordKey (w0 : World) (ver : Int) (hV : hasV 0 none ver = true) (b o : Nat) (v : GV) (hver : w0.cell? ⟨b, o + 0, none⟩ = some (.int .i16 ver)) (hrep : Rep TagMem [] w0 ver false schControlRecordKey b o v)
    (hl : (ap ver false schControlRecordKey v).length ≤ lim) : Calls Tryd.prog 38 #[.pointer (some ⟨b, o, none⟩), .slice none 0 0] w0 (Appended w0.heap.size w0 (ap ver false schControlRecordKey v)) := by
  have hTags := (tagsOK sortOK)
  refine calls_append_plain (N := 9) (nt := 30) Tryd.func38 rfl rfl rfl fa_61_0 oc_43 (by decide) hver hrep ?_ hl
  unfold schControlRecordKey
  exact (appRS_cons (lo := 6) (t := 14) (kok1 (by decide)) (by decide) (appFV_always hV (appF_leaf (kok1 (by decide)) (by decide) fa_61_0 oc_43 ⟨by decide, by decide, by decide, by decide⟩ (lo' := 7) (t' := 14) (by decide) (fun h => by cases h) (appL1 en_56 (leaf_i16 ver false) ⟨by decide, by decide, by decide, by decide⟩ (by decide))))
 (appRS_end (lo := 6) (t := 21) (kok1 (by decide)) (by decide) (appS_last (appFV_always hV (appF_leaf (kok1 (by decide)) (by decide) fa_61_1 oc_59 ⟨by decide, by decide, by decide, by decide⟩ (lo' := 8) (t' := 21) (by decide) (fun h => by cases h) (appL_copy (kok1 (by decide)) ⟨by decide, by decide, by decide, by decide⟩ (lo' := 9) (t' := 21) (by decide) (appL1 en_56 (leaf_i16 ver false) ⟨by decide, by decide, by decide, by decide⟩ (by decide)))))) (fun _ _ => AppR.ret (by decide))))
set_option maxRecDepth 100000 in
set_option maxHeartbeats 4000000 in
theorem readControlRecordKey (E : Value) (w : World) (b o T : Nat) (cs : List Value) (src : Value) (bs : List UInt8) (hB : Blk w b cs T) (hF : Fresh cs o schControlRecordKeyR) (hver : ∃ x0, w.cell? ⟨b, o + 0, none⟩ = some x0) (hok : ∀ n r, rdInt 2 32768 bs = some (n, r) → 0 ≤ n) (hs : RB [b] w src bs) (hbs : bs.length ≤ lim)
    (hE : w.cell? ⟨1, 0, none⟩ = some E) (hgE : 1 ≠ b) : Calls Tryd.prog 69 #[.pointer (some ⟨b, o, none⟩), src, .bool false] w (KeptPost TagMem E (fun _ => false) schControlRecordKeyR b o 0 bs w) := by
  have hC : CompleteC Tryd.prog 81 1 E := fun O rb w st h hE => rComplete O rb w st E h hE
  have hDef := def_68 w b o T cs hB hF
  have hFr : ∀ (cs : List Value) (y : Value), Fresh cs o schControlRecordKeyR → Fresh (cs.set (o + 0) y) o schControlRecordKeyR := fun cs y h => fresh_set (p := 0) (by decide) h
  refine calls_read_kept (N := 13) (nt := 35) (n := 1) (gE := 1) (low := 0) Tryd.func69 rfl rfl rfl Tryd.call68 Tryd.call77 rInt16 hFr fa_61_0 oc_43 mcReader rfl (fun ad n m => by kernel_rfl) (by decide) (by decide) tags_mono (by decide) (by decide) hok (fun ver hV => ?_) hver hDef hs hbs hE hgE hB.lt
  skip
  clear hDef hF hver hs hE hFr
  unfold schControlRecordKeyR
  exact (rdR_end (kokD rfl) ⟨by decide, by decide, by decide, by decide⟩ en_81 hC (by decide) (rdS_last (by decide) (rdFV_always hV (rdL_var (kokD rfl) ⟨by decide, by decide, by decide, by decide⟩ (by decide) (rdL_copy ⟨by decide, by decide, by decide, by decide⟩ (by decide) (rdL_call en_77 leafInt16 ⟨by decide, by decide, by decide, by decide⟩ (by decide))) (rdF_leafC (t2 := 0) (kokD rfl) fa_61_1 oc_59 ⟨by decide, by decide, by decide, by decide⟩ (by decide) (fun h => by cases h) (rdL_copy ⟨by decide, by decide, by decide, by decide⟩ (by decide) (rdL_call en_77 leafInt16 ⟨by decide, by decide, by decide, by decide⟩ (by decide)))) (kokD rfl)))))
end Go.Proofs.YtfchajjllhndlaaDoor
