/- The functions readFrom and AppendTo of some messages. Printed by readgen.py. -/
import Derived.Test.YtfmeobfnpnnebaaDoorMe
namespace Go.Proofs.YtfmeobfnpnnebaaDoor
open Go Go.RowKit
set_option linter.unusedVariables false
/-- What a UpdateMetadataResponse has. -/
def schUpdateMetadataResponse : Sch := (.cons 1 0 none (.leaf .i16) (.tags 2))
/-- What a DescribeClusterRequest has. -/
def schDescribeClusterRequest : Sch := (.cons 1 0 none (.leaf .bool) (.cons 2 1 none (.leaf .i8) (.cons 3 2 none (.leaf .bool) (.tags 4))))
/-- What a BrokerHeartbeatResponse has. -/
def schBrokerHeartbeatResponse : Sch := (.cons 1 0 none (.leaf .i32) (.cons 2 0 none (.leaf .i16) (.cons 3 0 none (.leaf .bool) (.cons 4 0 none (.leaf .bool) (.cons 5 0 none (.leaf .bool) (.tags 6))))))
/-- What a ExpireDelegationTokenRequest has. -/
def schExpireDelegationTokenRequest : Sch := (.cons 1 0 none (.leaf .bytes) (.cons 2 0 none (.leaf .i64) (.tags 3)))
theorem fa_102_0 : FieldAt Tryd.prog 102 0 0 := fieldAt_mk (ft := 42) (i := Tryd.t42) Tryd.underlying102 rfl (by kernel_rfl) (by decide)
theorem fa_102_1 : FieldAt Tryd.prog 102 1 1 := fieldAt_mk (ft := 21) (i := Tryd.t21) Tryd.underlying102 rfl (by kernel_rfl) (by decide)
theorem fa_102_2 : FieldAt Tryd.prog 102 2 2 := fieldAt_mk (ft := 42) (i := Tryd.t42) Tryd.underlying102 rfl (by kernel_rfl) (by decide)
theorem fa_102_3 : FieldAt Tryd.prog 102 3 3 := fieldAt_mk (ft := 4) (i := Tryd.t4) Tryd.underlying102 rfl (by kernel_rfl) (by decide)
theorem fa_102_4 : FieldAt Tryd.prog 102 4 4 := fieldAt_mk (ft := 4) (i := Tryd.t4) Tryd.underlying102 rfl (by kernel_rfl) (by decide)
theorem fa_102_5 : FieldAt Tryd.prog 102 5 5 := fieldAt_mk (ft := 4) (i := Tryd.t4) Tryd.underlying102 rfl (by kernel_rfl) (by decide)
theorem fa_102_6 : FieldAt Tryd.prog 102 6 6 := fieldAt_mk (ft := 69) (i := Tryd.t69) Tryd.underlying102 rfl (by kernel_rfl) (by decide)
theorem fa_104_0 : FieldAt Tryd.prog 104 0 0 := fieldAt_mk (ft := 42) (i := Tryd.t42) Tryd.underlying104 rfl (by kernel_rfl) (by decide)
theorem fa_104_1 : FieldAt Tryd.prog 104 1 1 := fieldAt_mk (ft := 22) (i := Tryd.t22) Tryd.underlying104 rfl (by kernel_rfl) (by decide)
theorem fa_104_2 : FieldAt Tryd.prog 104 2 2 := fieldAt_mk (ft := 2) (i := Tryd.t2) Tryd.underlying104 rfl (by kernel_rfl) (by decide)
theorem fa_104_3 : FieldAt Tryd.prog 104 3 3 := fieldAt_mk (ft := 69) (i := Tryd.t69) Tryd.underlying104 rfl (by kernel_rfl) (by decide)
theorem fa_71_0 : FieldAt Tryd.prog 71 0 0 := fieldAt_mk (ft := 42) (i := Tryd.t42) Tryd.underlying71 rfl (by kernel_rfl) (by decide)
theorem fa_71_1 : FieldAt Tryd.prog 71 1 1 := fieldAt_mk (ft := 42) (i := Tryd.t42) Tryd.underlying71 rfl (by kernel_rfl) (by decide)
theorem fa_71_2 : FieldAt Tryd.prog 71 2 2 := fieldAt_mk (ft := 69) (i := Tryd.t69) Tryd.underlying71 rfl (by kernel_rfl) (by decide)
theorem fa_85_0 : FieldAt Tryd.prog 85 0 0 := fieldAt_mk (ft := 42) (i := Tryd.t42) Tryd.underlying85 rfl (by kernel_rfl) (by decide)
theorem fa_85_1 : FieldAt Tryd.prog 85 1 1 := fieldAt_mk (ft := 4) (i := Tryd.t4) Tryd.underlying85 rfl (by kernel_rfl) (by decide)
theorem fa_85_2 : FieldAt Tryd.prog 85 2 2 := fieldAt_mk (ft := 83) (i := Tryd.t83) Tryd.underlying85 rfl (by kernel_rfl) (by decide)
theorem fa_85_3 : FieldAt Tryd.prog 85 3 3 := fieldAt_mk (ft := 4) (i := Tryd.t4) Tryd.underlying85 rfl (by kernel_rfl) (by decide)
theorem fa_85_4 : FieldAt Tryd.prog 85 4 4 := fieldAt_mk (ft := 69) (i := Tryd.t69) Tryd.underlying85 rfl (by kernel_rfl) (by decide)
theorem oc_2 : OneCell Tryd.prog 2 := ⟨fun w => Tryd.isAgg2 w, ⟨Tryd.t2, by kernel_rfl, rfl⟩⟩
theorem oc_21 : OneCell Tryd.prog 21 := ⟨fun w => Tryd.isAgg21 w, ⟨Tryd.t21, by kernel_rfl, rfl⟩⟩
theorem oc_22 : OneCell Tryd.prog 22 := ⟨fun w => Tryd.isAgg22 w, ⟨Tryd.t22, by kernel_rfl, rfl⟩⟩
theorem oc_4 : OneCell Tryd.prog 4 := ⟨fun w => Tryd.isAgg4 w, ⟨Tryd.t4, by kernel_rfl, rfl⟩⟩
theorem oc_42 : OneCell Tryd.prog 42 := ⟨fun w => Tryd.isAgg42 w, ⟨Tryd.t42, by kernel_rfl, rfl⟩⟩
theorem oc_83 : OneCell Tryd.prog 83 := ⟨fun w => Tryd.isAgg83 w, ⟨Tryd.t83, by kernel_rfl, rfl⟩⟩
theorem sz_69 : ∃ i, Tryd.prog.info? 69 = some i ∧ i.size = 1 := ⟨Tryd.t69, by kernel_rfl, rfl⟩
theorem def_56 (w : World) (b o T : Nat) (cs : List Value) (hB : Blk w b cs T) (hF : Fresh cs o schUpdateMetadataResponse) : DefT Tryd.prog 56 b o T 0 schUpdateMetadataResponse w := DefW.defT (nt := 2) (n := 1) Tryd.func56 rfl rfl (by decide) rfl DefW.skip (by decide) w b o T cs hB hF
theorem def_70 (w : World) (b o T : Nat) (cs : List Value) (hB : Blk w b cs T) (hF : Fresh cs o schDescribeClusterRequest) : DefT Tryd.prog 70 b o T 0 schDescribeClusterRequest w := DefW.defT (nt := 5) (n := 1) Tryd.func70 rfl rfl (by decide) rfl (DefW.one fa_85_2 oc_83 ⟨rfl, rfl⟩ (by decide) (by decide)) (by decide) w b o T cs hB hF
theorem def_80 (w : World) (b o T : Nat) (cs : List Value) (hB : Blk w b cs T) (hF : Fresh cs o schBrokerHeartbeatResponse) : DefT Tryd.prog 80 b o T 0 schBrokerHeartbeatResponse w := DefW.defT (nt := 5) (n := 1) Tryd.func80 rfl rfl (by decide) rfl (DefW.one fa_102_4 oc_4 ⟨rfl, rfl⟩ (by decide) (by decide)) (by decide) w b o T cs hB hF
theorem def_82 (w : World) (b o T : Nat) (cs : List Value) (hB : Blk w b cs T) (hF : Fresh cs o schExpireDelegationTokenRequest) : DefT Tryd.prog 82 b o T 0 schExpireDelegationTokenRequest w := DefW.defT (nt := 2) (n := 1) Tryd.func82 rfl rfl (by decide) rfl DefW.skip (by decide) w b o T cs hB hF
set_option maxRecDepth 100000 in
set_option maxHeartbeats 2000000 in
theorem appendUpdateMetadataResponse (w0 : World) (ver : Int) (hV : hasV 0 none ver = true) (b o : Nat) (v : GV) (hver : w0.cell? ⟨b, o + 0, none⟩ = some (.int .i16 ver)) (hrep : Rep TagMem [] w0 ver (hasV 6 none ver) schUpdateMetadataResponse b o v)
    (hl : (ap ver (hasV 6 none ver) schUpdateMetadataResponse v).length ≤ lim) : Calls Tryd.prog 33 #[.pointer (some ⟨b, o, none⟩), .slice none 0 0] w0 (Appended w0.heap.size w0 (ap ver (hasV 6 none ver) schUpdateMetadataResponse v)) := by
  have hTags := (tagsOK sortOK)
  refine calls_append_flex (N := 8) (nt := 38) (m := 6) Tryd.func33 rfl rfl rfl fa_71_0 oc_42 (by decide) hver hrep ?_ hl
  generalize hasV 6 none ver = flex
  unfold schUpdateMetadataResponse
  exact (appRS_cons (lo := 7) (t := 16) (kok2 (by decide)) (by decide) (appFV_always hV (appF_leaf (kok2 (by decide)) (by decide) fa_71_1 oc_42 ⟨by decide, by decide, by decide, by decide⟩ (lo' := 8) (t' := 16) (by decide) (fun h => by cases h) (appL1 en_66 (leaf_i16 ver flex) ⟨by decide, by decide, by decide, by decide⟩ (by decide))))
 (appRS_end (lo := 7) (t := 23) (kok2 (by decide)) (by decide) (appS_tags (lo := 7) (t := 23) (kok2 (by decide)) (by decide) mem2b fa_71_2 fa_71_2 Tryd.underlying3 Tryd.underlying63 en_68 en_69 en_67 hTags uvOK ⟨by decide, by decide, by decide, by decide⟩ (by decide)) (fun _ _ => AppR.ret (by decide))))
set_option maxRecDepth 100000 in
set_option maxHeartbeats 4000000 in
theorem readUpdateMetadataResponse (E : Value) (w : World) (ver : Int) (hV : hasV 0 none ver = true) (b o T : Nat) (cs : List Value) (src : Value) (bs : List UInt8) (hB : Blk w b cs T) (hF : Fresh cs o schUpdateMetadataResponse) (hver : w.cell? ⟨b, o + 0, none⟩ = some (.int .i16 ver)) (hs : RB [b] w src bs) (hbs : bs.length ≤ lim)
    (hE : w.cell? ⟨1, 0, none⟩ = some E) (hgE : 1 ≠ b) : Calls Tryd.prog 65 #[.pointer (some ⟨b, o, none⟩), src, .bool false] w (ReadPost TagMem E ver (hasV 6 none ver) schUpdateMetadataResponse b o 0 bs w) := by
  have hC : CompleteC Tryd.prog 95 1 E := fun O rb w st h hE => rComplete O rb w st E h hE
  have hDef := def_56 w b o T cs hB hF
  refine calls_read_flex (N := 12) (nt := 36) (m := 6) (n := 1) (gE := 1) Tryd.func65 rfl rfl rfl Tryd.call56 fa_71_0 oc_42 mcReader rfl (fun ad n m => by kernel_rfl) (by decide) (by decide) tags_mono (by decide) ?_ hver hDef hs hbs hE hgE hB.lt
  generalize hasV 6 none ver = flex
  clear hDef hF
  unfold schUpdateMetadataResponse
  exact (rdR_cons tags_keep (kokD rfl) ⟨by decide, by decide, by decide, by decide⟩ (by decide) (rdFV_always hV (rdF_leaf (t2 := 0) (kokD rfl) fa_71_1 oc_42 ⟨by decide, by decide, by decide, by decide⟩ (by decide) (fun h => by cases h) (rdL_call en_93 leafInt16 ⟨by decide, by decide, by decide, by decide⟩ (by decide))))
 (rdR_end (kokD rfl) ⟨by decide, by decide, by decide, by decide⟩ en_95 hC (by decide) (rdS_tags (kokD rfl) (List.mem_cons_of_mem _ (List.mem_cons_self ..)) fa_71_2 sz_69 Tryd.call94 tags_zero tagsRead ⟨by decide, by decide, by decide, by decide⟩ (by decide))))
set_option maxRecDepth 100000 in
set_option maxHeartbeats 2000000 in
theorem appendDescribeClusterRequest (w0 : World) (ver : Int) (hV : hasV 0 none ver = true) (b o : Nat) (v : GV) (hver : w0.cell? ⟨b, o + 0, none⟩ = some (.int .i16 ver)) (hrep : Rep TagMem [] w0 ver (hasV 0 none ver) schDescribeClusterRequest b o v)
    (hl : (ap ver (hasV 0 none ver) schDescribeClusterRequest v).length ≤ lim) : Calls Tryd.prog 38 #[.pointer (some ⟨b, o, none⟩), .slice none 0 0] w0 (Appended w0.heap.size w0 (ap ver (hasV 0 none ver) schDescribeClusterRequest v)) := by
  have hTags := (tagsOK sortOK)
  refine calls_append_flex (N := 10) (nt := 58) (m := 0) Tryd.func38 rfl rfl rfl fa_85_0 oc_42 (by decide) hver hrep ?_ hl
  generalize hasV 0 none ver = flex
  unfold schDescribeClusterRequest
  exact (appRS_cons (lo := 7) (t := 18) (kok2 (by decide)) (by decide) (appFV_always hV (appF_leaf (kok2 (by decide)) (by decide) fa_85_1 oc_4 ⟨by decide, by decide, by decide, by decide⟩ (lo' := 8) (t' := 18) (by decide) (fun h => by cases h) (appL1 en_72 (leaf_bool ver flex) ⟨by decide, by decide, by decide, by decide⟩ (by decide))))
 (appRS_cons (lo := 7) (t := 25) (kok2 (by decide)) (by decide) (appFV_ge (kok2 (by decide)) (by decide) mem2a ⟨by decide, by decide, by decide, by decide⟩ (by decide) (appF_leaf (kok2 (by decide)) (by decide) fa_85_2 oc_83 ⟨by decide, by decide, by decide, by decide⟩ (lo' := 9) (t' := 25) (by decide) (fun h => by cases h) (appL1 en_73 (leaf_i8 ver flex) ⟨by decide, by decide, by decide, by decide⟩ (by decide))))
 (appRS_cons (lo := 7) (t := 34) (kok2 (by decide)) (by decide) (appFV_ge (kok2 (by decide)) (by decide) mem2a ⟨by decide, by decide, by decide, by decide⟩ (by decide) (appF_leaf (kok2 (by decide)) (by decide) fa_85_3 oc_4 ⟨by decide, by decide, by decide, by decide⟩ (lo' := 10) (t' := 34) (by decide) (fun h => by cases h) (appL1 en_72 (leaf_bool ver flex) ⟨by decide, by decide, by decide, by decide⟩ (by decide))))
 (appRS_end (lo := 7) (t := 43) (kok2 (by decide)) (by decide) (appS_tags (lo := 7) (t := 43) (kok2 (by decide)) (by decide) mem2b fa_85_4 fa_85_4 Tryd.underlying3 Tryd.underlying63 en_68 en_69 en_67 hTags uvOK ⟨by decide, by decide, by decide, by decide⟩ (by decide)) (fun _ _ => AppR.ret (by decide))))))
set_option maxRecDepth 100000 in
set_option maxHeartbeats 4000000 in
theorem readDescribeClusterRequest (E : Value) (w : World) (ver : Int) (hV : hasV 0 none ver = true) (b o T : Nat) (cs : List Value) (src : Value) (bs : List UInt8) (hB : Blk w b cs T) (hF : Fresh cs o schDescribeClusterRequest) (hver : w.cell? ⟨b, o + 0, none⟩ = some (.int .i16 ver)) (hs : RB [b] w src bs) (hbs : bs.length ≤ lim)
    (hE : w.cell? ⟨1, 0, none⟩ = some E) (hgE : 1 ≠ b) : Calls Tryd.prog 71 #[.pointer (some ⟨b, o, none⟩), src, .bool false] w (ReadPost TagMem E ver (hasV 0 none ver) schDescribeClusterRequest b o 0 bs w) := by
  have hC : CompleteC Tryd.prog 95 1 E := fun O rb w st h hE => rComplete O rb w st E h hE
  have hDef := def_70 w b o T cs hB hF
  refine calls_read_flex (N := 14) (nt := 52) (m := 0) (n := 1) (gE := 1) Tryd.func71 rfl rfl rfl Tryd.call70 fa_85_0 oc_42 mcReader rfl (fun ad n m => by kernel_rfl) (by decide) (by decide) tags_mono (by decide) ?_ hver hDef hs hbs hE hgE hB.lt
  generalize hasV 0 none ver = flex
  clear hDef hF
  unfold schDescribeClusterRequest
  exact (rdR_cons tags_keep (kokD rfl) ⟨by decide, by decide, by decide, by decide⟩ (by decide) (rdFV_always hV (rdF_leaf (t2 := 0) (kokD rfl) fa_85_1 oc_4 ⟨by decide, by decide, by decide, by decide⟩ (by decide) (fun h => by cases h) (rdL_call en_100 leafBool ⟨by decide, by decide, by decide, by decide⟩ (by decide))))
 (rdR_cons tags_keep (kokD rfl) ⟨by decide, by decide, by decide, by decide⟩ (by decide) (rdFV_ge (kokD rfl) (List.mem_cons_self ..) ⟨by decide, by decide, by decide, by decide⟩ (by decide) (rdF_leaf (t2 := 0) (kokD rfl) fa_85_2 oc_83 ⟨by decide, by decide, by decide, by decide⟩ (by decide) (fun h => by cases h) (rdL_call en_101 leafInt8 ⟨by decide, by decide, by decide, by decide⟩ (by decide))))
 (rdR_cons tags_keep (kokD rfl) ⟨by decide, by decide, by decide, by decide⟩ (by decide) (rdFV_ge (kokD rfl) (List.mem_cons_self ..) ⟨by decide, by decide, by decide, by decide⟩ (by decide) (rdF_leaf (t2 := 0) (kokD rfl) fa_85_3 oc_4 ⟨by decide, by decide, by decide, by decide⟩ (by decide) (fun h => by cases h) (rdL_call en_100 leafBool ⟨by decide, by decide, by decide, by decide⟩ (by decide))))
 (rdR_end (kokD rfl) ⟨by decide, by decide, by decide, by decide⟩ en_95 hC (by decide) (rdS_tags (kokD rfl) (List.mem_cons_of_mem _ (List.mem_cons_self ..)) fa_85_4 sz_69 Tryd.call94 tags_zero tagsRead ⟨by decide, by decide, by decide, by decide⟩ (by decide))))))
set_option maxRecDepth 100000 in
set_option maxHeartbeats 2000000 in
theorem appendBrokerHeartbeatResponse (w0 : World) (ver : Int) (hV : hasV 0 none ver = true) (b o : Nat) (v : GV) (hver : w0.cell? ⟨b, o + 0, none⟩ = some (.int .i16 ver)) (hrep : Rep TagMem [] w0 ver (hasV 0 none ver) schBrokerHeartbeatResponse b o v)
    (hl : (ap ver (hasV 0 none ver) schBrokerHeartbeatResponse v).length ≤ lim) : Calls Tryd.prog 49 #[.pointer (some ⟨b, o, none⟩), .slice none 0 0] w0 (Appended w0.heap.size w0 (ap ver (hasV 0 none ver) schBrokerHeartbeatResponse v)) := by
  have hTags := (tagsOK sortOK)
  refine calls_append_flex (N := 12) (nt := 70) (m := 0) Tryd.func49 rfl rfl rfl fa_102_0 oc_42 (by decide) hver hrep ?_ hl
  generalize hasV 0 none ver = flex
  unfold schBrokerHeartbeatResponse
  exact (appRS_cons (lo := 7) (t := 20) (kok2 (by decide)) (by decide) (appFV_always hV (appF_leaf (kok2 (by decide)) (by decide) fa_102_1 oc_21 ⟨by decide, by decide, by decide, by decide⟩ (lo' := 8) (t' := 20) (by decide) (fun h => by cases h) (appL1 en_77 (leaf_i32 ver flex) ⟨by decide, by decide, by decide, by decide⟩ (by decide))))
 (appRS_cons (lo := 7) (t := 27) (kok2 (by decide)) (by decide) (appFV_always hV (appF_leaf (kok2 (by decide)) (by decide) fa_102_2 oc_42 ⟨by decide, by decide, by decide, by decide⟩ (lo' := 9) (t' := 27) (by decide) (fun h => by cases h) (appL1 en_66 (leaf_i16 ver flex) ⟨by decide, by decide, by decide, by decide⟩ (by decide))))
 (appRS_cons (lo := 7) (t := 34) (kok2 (by decide)) (by decide) (appFV_always hV (appF_leaf (kok2 (by decide)) (by decide) fa_102_3 oc_4 ⟨by decide, by decide, by decide, by decide⟩ (lo' := 10) (t' := 34) (by decide) (fun h => by cases h) (appL1 en_72 (leaf_bool ver flex) ⟨by decide, by decide, by decide, by decide⟩ (by decide))))
 (appRS_cons (lo := 7) (t := 41) (kok2 (by decide)) (by decide) (appFV_always hV (appF_leaf (kok2 (by decide)) (by decide) fa_102_4 oc_4 ⟨by decide, by decide, by decide, by decide⟩ (lo' := 11) (t' := 41) (by decide) (fun h => by cases h) (appL1 en_72 (leaf_bool ver flex) ⟨by decide, by decide, by decide, by decide⟩ (by decide))))
 (appRS_cons (lo := 7) (t := 48) (kok2 (by decide)) (by decide) (appFV_always hV (appF_leaf (kok2 (by decide)) (by decide) fa_102_5 oc_4 ⟨by decide, by decide, by decide, by decide⟩ (lo' := 12) (t' := 48) (by decide) (fun h => by cases h) (appL1 en_72 (leaf_bool ver flex) ⟨by decide, by decide, by decide, by decide⟩ (by decide))))
 (appRS_end (lo := 7) (t := 55) (kok2 (by decide)) (by decide) (appS_tags (lo := 7) (t := 55) (kok2 (by decide)) (by decide) mem2b fa_102_6 fa_102_6 Tryd.underlying3 Tryd.underlying63 en_68 en_69 en_67 hTags uvOK ⟨by decide, by decide, by decide, by decide⟩ (by decide)) (fun _ _ => AppR.ret (by decide))))))))
set_option maxRecDepth 100000 in
set_option maxHeartbeats 4000000 in
theorem readBrokerHeartbeatResponse (E : Value) (w : World) (ver : Int) (hV : hasV 0 none ver = true) (b o T : Nat) (cs : List Value) (src : Value) (bs : List UInt8) (hB : Blk w b cs T) (hF : Fresh cs o schBrokerHeartbeatResponse) (hver : w.cell? ⟨b, o + 0, none⟩ = some (.int .i16 ver)) (hs : RB [b] w src bs) (hbs : bs.length ≤ lim)
    (hE : w.cell? ⟨1, 0, none⟩ = some E) (hgE : 1 ≠ b) : Calls Tryd.prog 81 #[.pointer (some ⟨b, o, none⟩), src, .bool false] w (ReadPost TagMem E ver (hasV 0 none ver) schBrokerHeartbeatResponse b o 0 bs w) := by
  have hC : CompleteC Tryd.prog 95 1 E := fun O rb w st h hE => rComplete O rb w st E h hE
  have hDef := def_80 w b o T cs hB hF
  refine calls_read_flex (N := 16) (nt := 60) (m := 0) (n := 1) (gE := 1) Tryd.func81 rfl rfl rfl Tryd.call80 fa_102_0 oc_42 mcReader rfl (fun ad n m => by kernel_rfl) (by decide) (by decide) tags_mono (by decide) ?_ hver hDef hs hbs hE hgE hB.lt
  generalize hasV 0 none ver = flex
  clear hDef hF
  unfold schBrokerHeartbeatResponse
  exact (rdR_cons tags_keep (kokD rfl) ⟨by decide, by decide, by decide, by decide⟩ (by decide) (rdFV_always hV (rdF_leaf (t2 := 0) (kokD rfl) fa_102_1 oc_21 ⟨by decide, by decide, by decide, by decide⟩ (by decide) (fun h => by cases h) (rdL_call en_102 leafInt32 ⟨by decide, by decide, by decide, by decide⟩ (by decide))))
 (rdR_cons tags_keep (kokD rfl) ⟨by decide, by decide, by decide, by decide⟩ (by decide) (rdFV_always hV (rdF_leaf (t2 := 0) (kokD rfl) fa_102_2 oc_42 ⟨by decide, by decide, by decide, by decide⟩ (by decide) (fun h => by cases h) (rdL_call en_93 leafInt16 ⟨by decide, by decide, by decide, by decide⟩ (by decide))))
 (rdR_cons tags_keep (kokD rfl) ⟨by decide, by decide, by decide, by decide⟩ (by decide) (rdFV_always hV (rdF_leaf (t2 := 0) (kokD rfl) fa_102_3 oc_4 ⟨by decide, by decide, by decide, by decide⟩ (by decide) (fun h => by cases h) (rdL_call en_100 leafBool ⟨by decide, by decide, by decide, by decide⟩ (by decide))))
 (rdR_cons tags_keep (kokD rfl) ⟨by decide, by decide, by decide, by decide⟩ (by decide) (rdFV_always hV (rdF_leaf (t2 := 0) (kokD rfl) fa_102_4 oc_4 ⟨by decide, by decide, by decide, by decide⟩ (by decide) (fun h => by cases h) (rdL_call en_100 leafBool ⟨by decide, by decide, by decide, by decide⟩ (by decide))))
 (rdR_cons tags_keep (kokD rfl) ⟨by decide, by decide, by decide, by decide⟩ (by decide) (rdFV_always hV (rdF_leaf (t2 := 0) (kokD rfl) fa_102_5 oc_4 ⟨by decide, by decide, by decide, by decide⟩ (by decide) (fun h => by cases h) (rdL_call en_100 leafBool ⟨by decide, by decide, by decide, by decide⟩ (by decide))))
 (rdR_end (kokD rfl) ⟨by decide, by decide, by decide, by decide⟩ en_95 hC (by decide) (rdS_tags (kokD rfl) (List.mem_cons_of_mem _ (List.mem_cons_self ..)) fa_102_6 sz_69 Tryd.call94 tags_zero tagsRead ⟨by decide, by decide, by decide, by decide⟩ (by decide))))))))
set_option maxRecDepth 100000 in
set_option maxHeartbeats 2000000 in
theorem appendExpireDelegationTokenRequest (w0 : World) (ver : Int) (hV : hasV 0 none ver = true) (b o : Nat) (v : GV) (hver : w0.cell? ⟨b, o + 0, none⟩ = some (.int .i16 ver)) (hrep : Rep TagMem [] w0 ver (hasV 2 none ver) schExpireDelegationTokenRequest b o v)
    (hl : (ap ver (hasV 2 none ver) schExpireDelegationTokenRequest v).length ≤ lim) : Calls Tryd.prog 54 #[.pointer (some ⟨b, o, none⟩), .slice none 0 0] w0 (Appended w0.heap.size w0 (ap ver (hasV 2 none ver) schExpireDelegationTokenRequest v)) := by
  have hTags := (tagsOK sortOK)
  refine calls_append_flex (N := 9) (nt := 50) (m := 2) Tryd.func54 rfl rfl rfl fa_104_0 oc_42 (by decide) hver hrep ?_ hl
  generalize hasV 2 none ver = flex
  unfold schExpireDelegationTokenRequest
  exact (appRS_cons (lo := 7) (t := 17) (kok2 (by decide)) (by decide) (appFV_always hV (appF_leaf (kok2 (by decide)) (by decide) fa_104_1 oc_22 ⟨by decide, by decide, by decide, by decide⟩ (lo' := 8) (t' := 17) (by decide) (fun h => by cases h) (appL2 (kok2 (by decide)) (by decide) mem2b ⟨by decide, by decide, by decide, by decide⟩ (by decide) (fun h => by subst h; exact appL1 en_84 (leaf_bytes_true ver) ⟨by decide, by decide, by decide, by decide⟩ (by decide)) (fun h => by subst h; exact appL1 en_85 (leaf_bytes_false ver) ⟨by decide, by decide, by decide, by decide⟩ (by decide)))))
 (appRS_cons (lo := 7) (t := 28) (kok2 (by decide)) (by decide) (appFV_always hV (appF_leaf (kok2 (by decide)) (by decide) fa_104_2 oc_2 ⟨by decide, by decide, by decide, by decide⟩ (lo' := 9) (t' := 28) (by decide) (fun h => by cases h) (appL1 en_86 (leaf_i64 ver flex) ⟨by decide, by decide, by decide, by decide⟩ (by decide))))
 (appRS_end (lo := 7) (t := 35) (kok2 (by decide)) (by decide) (appS_tags (lo := 7) (t := 35) (kok2 (by decide)) (by decide) mem2b fa_104_3 fa_104_3 Tryd.underlying3 Tryd.underlying63 en_68 en_69 en_67 hTags uvOK ⟨by decide, by decide, by decide, by decide⟩ (by decide)) (fun _ _ => AppR.ret (by decide)))))
set_option maxRecDepth 100000 in
set_option maxHeartbeats 4000000 in
theorem readExpireDelegationTokenRequest (E : Value) (w : World) (ver : Int) (hV : hasV 0 none ver = true) (b o T : Nat) (cs : List Value) (src : Value) (bs : List UInt8) (hB : Blk w b cs T) (hF : Fresh cs o schExpireDelegationTokenRequest) (hver : w.cell? ⟨b, o + 0, none⟩ = some (.int .i16 ver)) (hs : RB [b] w src bs) (hbs : bs.length ≤ lim)
    (hE : w.cell? ⟨1, 0, none⟩ = some E) (hgE : 1 ≠ b) : Calls Tryd.prog 83 #[.pointer (some ⟨b, o, none⟩), src, .bool false] w (ReadPost TagMem E ver (hasV 2 none ver) schExpireDelegationTokenRequest b o 0 bs w) := by
  have hC : CompleteC Tryd.prog 95 1 E := fun O rb w st h hE => rComplete O rb w st E h hE
  have hDef := def_82 w b o T cs hB hF
  refine calls_read_flex (N := 13) (nt := 44) (m := 2) (n := 1) (gE := 1) Tryd.func83 rfl rfl rfl Tryd.call82 fa_104_0 oc_42 mcReader rfl (fun ad n m => by kernel_rfl) (by decide) (by decide) tags_mono (by decide) ?_ hver hDef hs hbs hE hgE hB.lt
  generalize hasV 2 none ver = flex
  clear hDef hF
  unfold schExpireDelegationTokenRequest
  exact (rdR_cons tags_keep (kokD rfl) ⟨by decide, by decide, by decide, by decide⟩ (by decide) (rdFV_always hV (rdL_var (kokD rfl) ⟨by decide, by decide, by decide, by decide⟩ (by decide) (rdL_flag (kokD rfl) (List.mem_cons_of_mem _ (List.mem_cons_self ..)) ⟨by decide, by decide, by decide, by decide⟩ (by decide) (fun h => by subst h; exact (rdL_call en_110 leafCompactBytes ⟨by decide, by decide, by decide, by decide⟩ (by decide))) (fun h => by subst h; exact (rdL_call en_111 leafBytes ⟨by decide, by decide, by decide, by decide⟩ (by decide)))) (rdF_leaf (t2 := 0) (kokD rfl) fa_104_1 oc_22 ⟨by decide, by decide, by decide, by decide⟩ (by decide) (fun h => by cases h) (rdL_flag (kokD rfl) (List.mem_cons_of_mem _ (List.mem_cons_self ..)) ⟨by decide, by decide, by decide, by decide⟩ (by decide) (fun h => by subst h; exact (rdL_call en_110 leafCompactBytes ⟨by decide, by decide, by decide, by decide⟩ (by decide))) (fun h => by subst h; exact (rdL_call en_111 leafBytes ⟨by decide, by decide, by decide, by decide⟩ (by decide))))) (kokD rfl)))
 (rdR_cons tags_keep (kokD rfl) ⟨by decide, by decide, by decide, by decide⟩ (by decide) (rdFV_always hV (rdF_leaf (t2 := 0) (kokD rfl) fa_104_2 oc_2 ⟨by decide, by decide, by decide, by decide⟩ (by decide) (fun h => by cases h) (rdL_call en_112 leafInt64 ⟨by decide, by decide, by decide, by decide⟩ (by decide))))
 (rdR_end (kokD rfl) ⟨by decide, by decide, by decide, by decide⟩ en_95 hC (by decide) (rdS_tags (kokD rfl) (List.mem_cons_of_mem _ (List.mem_cons_self ..)) fa_104_3 sz_69 Tryd.call94 tags_zero tagsRead ⟨by decide, by decide, by decide, by decide⟩ (by decide)))))
end Go.Proofs.YtfmeobfnpnnebaaDoor
