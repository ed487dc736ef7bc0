/- The functions readFrom and AppendTo of some messages. Printed by readgen.py. -/
import Derived.Test.YtfchajjllhndlaaDoorMe
namespace Go.Proofs.YtfchajjllhndlaaDoor
open Go Go.RowKit
set_option linter.unusedVariables false
/-- What a ExpireDelegationTokenRequest has. -/
def schExpireDelegationTokenRequest : Sch := (.cons 1 0 none (.leaf .bytes) (.cons 2 0 none (.leaf .i64) (.tags 3)))
theorem fa_99_0 : FieldAt Tryd.prog 99 0 0 := fieldAt_mk (ft := 43) (i := Tryd.t43) Tryd.underlying99 rfl (by kernel_rfl) (by decide)
theorem fa_99_1 : FieldAt Tryd.prog 99 1 1 := fieldAt_mk (ft := 22) (i := Tryd.t22) Tryd.underlying99 rfl (by kernel_rfl) (by decide)
theorem fa_99_2 : FieldAt Tryd.prog 99 2 2 := fieldAt_mk (ft := 2) (i := Tryd.t2) Tryd.underlying99 rfl (by kernel_rfl) (by decide)
theorem fa_99_3 : FieldAt Tryd.prog 99 3 3 := fieldAt_mk (ft := 97) (i := Tryd.t97) Tryd.underlying99 rfl (by kernel_rfl) (by decide)
theorem oc_2 : OneCell Tryd.prog 2 := ⟨fun w => Tryd.isAgg2 w, ⟨Tryd.t2, by kernel_rfl, rfl⟩⟩
theorem oc_22 : OneCell Tryd.prog 22 := ⟨fun w => Tryd.isAgg22 w, ⟨Tryd.t22, by kernel_rfl, rfl⟩⟩
theorem oc_43 : OneCell Tryd.prog 43 := ⟨fun w => Tryd.isAgg43 w, ⟨Tryd.t43, by kernel_rfl, rfl⟩⟩
theorem sz_97 : ∃ i, Tryd.prog.info? 97 = some i ∧ i.size = 1 := ⟨Tryd.t97, by kernel_rfl, rfl⟩
theorem def_60 (w : World) (b o T : Nat) (cs : List Value) (hB : Blk w b cs T) (hF : Fresh cs o schExpireDelegationTokenRequest) : DefT Tryd.prog 60 b o T 0 schExpireDelegationTokenRequest w := DefW.defT (nt := 2) (n := 1) Tryd.func60 rfl rfl (by decide) rfl DefW.skip (by decide) w b o T cs hB hF
set_option maxRecDepth 100000 in
set_option maxHeartbeats 2000000 in
theorem appendExpireDelegationTokenRequest (w0 : World) (ver : Int) (hV : hasV 0 none ver = true) (b o : Nat) (v : GV) (hver : w0.cell? ⟨b, o + 0, none⟩ = some (.int .i16 ver)) (hrep : Rep TagMem [] w0 ver (hasV 2 none ver) schExpireDelegationTokenRequest b o v)
    (hl : (ap ver (hasV 2 none ver) schExpireDelegationTokenRequest v).length ≤ lim) : Calls Tryd.prog 34 #[.pointer (some ⟨b, o, none⟩), .slice none 0 0] w0 (Appended w0.heap.size w0 (ap ver (hasV 2 none ver) schExpireDelegationTokenRequest v)) := by
  have hTags := (tagsOK sortOK)
  refine calls_append_flex (N := 9) (nt := 50) (m := 2) Tryd.func34 rfl rfl rfl fa_99_0 oc_43 (by decide) hver hrep ?_ hl
  generalize hasV 2 none ver = flex
  unfold schExpireDelegationTokenRequest
  exact (appRS_cons (lo := 7) (t := 17) (kok2 (by decide)) (by decide) (appFV_always hV (appF_leaf (kok2 (by decide)) (by decide) fa_99_1 oc_22 ⟨by decide, by decide, by decide, by decide⟩ (lo' := 8) (t' := 17) (by decide) (fun h => by cases h) (appL2 (kok2 (by decide)) (by decide) mem2b ⟨by decide, by decide, by decide, by decide⟩ (by decide) (fun h => by subst h; exact appL1 en_62 (leaf_bytes_true ver) ⟨by decide, by decide, by decide, by decide⟩ (by decide)) (fun h => by subst h; exact appL1 en_63 (leaf_bytes_false ver) ⟨by decide, by decide, by decide, by decide⟩ (by decide)))))
 (appRS_cons (lo := 7) (t := 28) (kok2 (by decide)) (by decide) (appFV_always hV (appF_leaf (kok2 (by decide)) (by decide) fa_99_2 oc_2 ⟨by decide, by decide, by decide, by decide⟩ (lo' := 9) (t' := 28) (by decide) (fun h => by cases h) (appL1 en_64 (leaf_i64 ver flex) ⟨by decide, by decide, by decide, by decide⟩ (by decide))))
 (appRS_end (lo := 7) (t := 35) (kok2 (by decide)) (by decide) (appS_tags (lo := 7) (t := 35) (kok2 (by decide)) (by decide) mem2b fa_99_3 fa_99_3 Tryd.underlying3 Tryd.underlying68 en_66 en_67 en_65 hTags uvOK ⟨by decide, by decide, by decide, by decide⟩ (by decide)) (fun _ _ => AppR.ret (by decide)))))
set_option maxRecDepth 100000 in
set_option maxHeartbeats 4000000 in
theorem readExpireDelegationTokenRequest (E : Value) (w : World) (ver : Int) (hV : hasV 0 none ver = true) (b o T : Nat) (cs : List Value) (src : Value) (bs : List UInt8) (hB : Blk w b cs T) (hF : Fresh cs o schExpireDelegationTokenRequest) (hver : w.cell? ⟨b, o + 0, none⟩ = some (.int .i16 ver)) (hs : RB [b] w src bs) (hbs : bs.length ≤ lim)
    (hE : w.cell? ⟨1, 0, none⟩ = some E) (hgE : 1 ≠ b) : Calls Tryd.prog 61 #[.pointer (some ⟨b, o, none⟩), src, .bool false] w (ReadPost TagMem E ver (hasV 2 none ver) schExpireDelegationTokenRequest b o 0 bs w) := by
  have hC : CompleteC Tryd.prog 81 1 E := fun O rb w st h hE => rComplete O rb w st E h hE
  have hDef := def_60 w b o T cs hB hF
  refine calls_read_flex (N := 13) (nt := 44) (m := 2) (n := 1) (gE := 1) Tryd.func61 rfl rfl rfl Tryd.call60 fa_99_0 oc_43 mcReader rfl (fun ad n m => by kernel_rfl) (by decide) (by decide) tags_mono (by decide) ?_ hver hDef hs hbs hE hgE hB.lt
  generalize hasV 2 none ver = flex
  clear hDef hF
  unfold schExpireDelegationTokenRequest
  exact (rdR_cons tags_keep (kokD rfl) ⟨by decide, by decide, by decide, by decide⟩ (by decide) (rdFV_always hV (rdL_var (kokD rfl) ⟨by decide, by decide, by decide, by decide⟩ (by decide) (rdL_flag (kokD rfl) (List.mem_cons_of_mem _ (List.mem_cons_self ..)) ⟨by decide, by decide, by decide, by decide⟩ (by decide) (fun h => by subst h; exact (rdL_call en_88 leafCompactBytes ⟨by decide, by decide, by decide, by decide⟩ (by decide))) (fun h => by subst h; exact (rdL_call en_89 leafBytes ⟨by decide, by decide, by decide, by decide⟩ (by decide)))) (rdF_leaf (t2 := 0) (kokD rfl) fa_99_1 oc_22 ⟨by decide, by decide, by decide, by decide⟩ (by decide) (fun h => by cases h) (rdL_flag (kokD rfl) (List.mem_cons_of_mem _ (List.mem_cons_self ..)) ⟨by decide, by decide, by decide, by decide⟩ (by decide) (fun h => by subst h; exact (rdL_call en_88 leafCompactBytes ⟨by decide, by decide, by decide, by decide⟩ (by decide))) (fun h => by subst h; exact (rdL_call en_89 leafBytes ⟨by decide, by decide, by decide, by decide⟩ (by decide))))) (kokD rfl)))
 (rdR_cons tags_keep (kokD rfl) ⟨by decide, by decide, by decide, by decide⟩ (by decide) (rdFV_always hV (rdF_leaf (t2 := 0) (kokD rfl) fa_99_2 oc_2 ⟨by decide, by decide, by decide, by decide⟩ (by decide) (fun h => by cases h) (rdL_call en_90 leafInt64 ⟨by decide, by decide, by decide, by decide⟩ (by decide))))
 (rdR_end (kokD rfl) ⟨by decide, by decide, by decide, by decide⟩ en_81 hC (by decide) (rdS_tags (kokD rfl) (List.mem_cons_of_mem _ (List.mem_cons_self ..)) fa_99_3 sz_97 Tryd.call91 tags_zero tagsRead ⟨by decide, by decide, by decide, by decide⟩ (by decide)))))
end Go.Proofs.YtfchajjllhndlaaDoor
