/- The functions AppendTo of some messages write just what 'ap' says. Printed by msggen.py. -/
import Derived.Test.YtdiemlkpboahgaaLeaf
namespace Go.Proofs.Ytdiemlkpboahgaa
open Go Go.RowKit
theorem fa_102_0 : FieldAt Try.prog 102 0 0 := fieldAt_mk (ft := 67) (i := Try.t67) Try.underlying102 rfl (by kernel_rfl) (by decide)
theorem fa_102_1 : FieldAt Try.prog 102 1 1 := fieldAt_mk (ft := 4) (i := Try.t4) Try.underlying102 rfl (by kernel_rfl) (by decide)
theorem fa_102_2 : FieldAt Try.prog 102 2 2 := fieldAt_mk (ft := 30) (i := Try.t30) Try.underlying102 rfl (by kernel_rfl) (by decide)
theorem fa_102_3 : FieldAt Try.prog 102 3 3 := fieldAt_mk (ft := 4) (i := Try.t4) Try.underlying102 rfl (by kernel_rfl) (by decide)
theorem fa_102_4 : FieldAt Try.prog 102 4 4 := fieldAt_mk (ft := 85) (i := Try.t85) Try.underlying102 rfl (by kernel_rfl) (by decide)
theorem fa_105_0 : FieldAt Try.prog 105 0 0 := fieldAt_mk (ft := 67) (i := Try.t67) Try.underlying105 rfl (by kernel_rfl) (by decide)
theorem fa_105_1 : FieldAt Try.prog 105 1 1 := fieldAt_mk (ft := 9) (i := Try.t9) Try.underlying105 rfl (by kernel_rfl) (by decide)
theorem fa_105_2 : FieldAt Try.prog 105 2 2 := fieldAt_mk (ft := 2) (i := Try.t2) Try.underlying105 rfl (by kernel_rfl) (by decide)
theorem fa_105_3 : FieldAt Try.prog 105 3 3 := fieldAt_mk (ft := 67) (i := Try.t67) Try.underlying105 rfl (by kernel_rfl) (by decide)
theorem fa_105_4 : FieldAt Try.prog 105 4 4 := fieldAt_mk (ft := 4) (i := Try.t4) Try.underlying105 rfl (by kernel_rfl) (by decide)
theorem fa_105_5 : FieldAt Try.prog 105 5 5 := fieldAt_mk (ft := 85) (i := Try.t85) Try.underlying105 rfl (by kernel_rfl) (by decide)
theorem fa_87_0 : FieldAt Try.prog 87 0 0 := fieldAt_mk (ft := 67) (i := Try.t67) Try.underlying87 rfl (by kernel_rfl) (by decide)
theorem fa_87_1 : FieldAt Try.prog 87 1 1 := fieldAt_mk (ft := 67) (i := Try.t67) Try.underlying87 rfl (by kernel_rfl) (by decide)
theorem fa_87_2 : FieldAt Try.prog 87 2 2 := fieldAt_mk (ft := 85) (i := Try.t85) Try.underlying87 rfl (by kernel_rfl) (by decide)
theorem oc_2 : OneCell Try.prog 2 := ⟨fun w => Try.isAgg2 w, ⟨Try.t2, by kernel_rfl, rfl⟩⟩
theorem oc_30 : OneCell Try.prog 30 := ⟨fun w => Try.isAgg30 w, ⟨Try.t30, by kernel_rfl, rfl⟩⟩
theorem oc_4 : OneCell Try.prog 4 := ⟨fun w => Try.isAgg4 w, ⟨Try.t4, by kernel_rfl, rfl⟩⟩
theorem oc_67 : OneCell Try.prog 67 := ⟨fun w => Try.isAgg67 w, ⟨Try.t67, by kernel_rfl, rfl⟩⟩
theorem oc_9 : OneCell Try.prog 9 := ⟨fun w => Try.isAgg9 w, ⟨Try.t9, by kernel_rfl, rfl⟩⟩
/-- What a UpdateMetadataResponse has. -/
def schUpdateMetadataResponse : Sch := (.cons 1 0 none (.leaf .i16) (.tags 2))
set_option maxRecDepth 100000 in
set_option maxHeartbeats 2000000 in
theorem appendUpdateMetadataResponse (w0 : World) (ver : Int) (hV : hasV 0 none ver = true) (b o : Nat) (v : GV) (hver : w0.cell? ⟨b, o + 0, none⟩ = some (.int .i16 ver)) (hrep : Rep noTags [] w0 ver (hasV 6 none ver) schUpdateMetadataResponse b o v)
    (hl : (ap ver (hasV 6 none ver) schUpdateMetadataResponse v).length ≤ lim) : Calls Try.prog 42 #[.pointer (some ⟨b, o, none⟩), .slice none 0 0] w0 (Appended w0.heap.size w0 (ap ver (hasV 6 none ver) schUpdateMetadataResponse v)) := by
  have hTags := tags_none
  refine calls_append_flex (N := 8) (nt := 38) (m := 6) Try.func42 rfl rfl rfl fa_87_0 oc_67 (by decide) hver hrep ?_ hl
  generalize hasV 6 none ver = flex
  unfold schUpdateMetadataResponse
  exact (appRS_cons (lo := 7) (t := 16) (kok2 (by decide)) (by decide) (appFV_always hV (appF_leaf (kok2 (by decide)) (by decide) fa_87_1 oc_67 ⟨by decide, by decide, by decide, by decide⟩ (lo' := 8) (t' := 16) (by decide) (fun h => by cases h) (appL1 en_57 (leaf_i16 ver flex) ⟨by decide, by decide, by decide, by decide⟩ (by decide))))
 (appRS_end (lo := 7) (t := 23) (kok2 (by decide)) (by decide) (appS_tags (lo := 7) (t := 23) (kok2 (by decide)) (by decide) mem2b fa_87_2 fa_87_2 Try.underlying3 Try.underlying90 en_59 en_60 en_58 hTags uvOK ⟨by decide, by decide, by decide, by decide⟩ (by decide)) (fun _ _ => AppR.ret (by decide))))
/-- What a DescribeClusterRequest has. -/
def schDescribeClusterRequest : Sch := (.cons 1 0 none (.leaf .bool) (.cons 2 1 none (.leaf .i8) (.cons 3 2 none (.leaf .bool) (.tags 4))))
set_option maxRecDepth 100000 in
set_option maxHeartbeats 2000000 in
theorem appendDescribeClusterRequest (w0 : World) (ver : Int) (hV : hasV 0 none ver = true) (b o : Nat) (v : GV) (hver : w0.cell? ⟨b, o + 0, none⟩ = some (.int .i16 ver)) (hrep : Rep noTags [] w0 ver (hasV 0 none ver) schDescribeClusterRequest b o v)
    (hl : (ap ver (hasV 0 none ver) schDescribeClusterRequest v).length ≤ lim) : Calls Try.prog 47 #[.pointer (some ⟨b, o, none⟩), .slice none 0 0] w0 (Appended w0.heap.size w0 (ap ver (hasV 0 none ver) schDescribeClusterRequest v)) := by
  have hTags := tags_none
  refine calls_append_flex (N := 10) (nt := 58) (m := 0) Try.func47 rfl rfl rfl fa_102_0 oc_67 (by decide) hver hrep ?_ hl
  generalize hasV 0 none ver = flex
  unfold schDescribeClusterRequest
  exact (appRS_cons (lo := 7) (t := 18) (kok2 (by decide)) (by decide) (appFV_always hV (appF_leaf (kok2 (by decide)) (by decide) fa_102_1 oc_4 ⟨by decide, by decide, by decide, by decide⟩ (lo' := 8) (t' := 18) (by decide) (fun h => by cases h) (appL1 en_70 (leaf_bool ver flex) ⟨by decide, by decide, by decide, by decide⟩ (by decide))))
 (appRS_cons (lo := 7) (t := 25) (kok2 (by decide)) (by decide) (appFV_ge (kok2 (by decide)) (by decide) mem2a ⟨by decide, by decide, by decide, by decide⟩ (by decide) (appF_leaf (kok2 (by decide)) (by decide) fa_102_2 oc_30 ⟨by decide, by decide, by decide, by decide⟩ (lo' := 9) (t' := 25) (by decide) (fun h => by cases h) (appL1 en_54 (leaf_i8 ver flex) ⟨by decide, by decide, by decide, by decide⟩ (by decide))))
 (appRS_cons (lo := 7) (t := 34) (kok2 (by decide)) (by decide) (appFV_ge (kok2 (by decide)) (by decide) mem2a ⟨by decide, by decide, by decide, by decide⟩ (by decide) (appF_leaf (kok2 (by decide)) (by decide) fa_102_3 oc_4 ⟨by decide, by decide, by decide, by decide⟩ (lo' := 10) (t' := 34) (by decide) (fun h => by cases h) (appL1 en_70 (leaf_bool ver flex) ⟨by decide, by decide, by decide, by decide⟩ (by decide))))
 (appRS_end (lo := 7) (t := 43) (kok2 (by decide)) (by decide) (appS_tags (lo := 7) (t := 43) (kok2 (by decide)) (by decide) mem2b fa_102_4 fa_102_4 Try.underlying3 Try.underlying90 en_59 en_60 en_58 hTags uvOK ⟨by decide, by decide, by decide, by decide⟩ (by decide)) (fun _ _ => AppR.ret (by decide))))))
/-- What a EndTxnRequest has. -/
def schEndTxnRequest : Sch := (.cons 1 0 none (.leaf .str) (.cons 2 0 none (.leaf .i64) (.cons 3 0 none (.leaf .i16) (.cons 4 0 none (.leaf .bool) (.tags 5)))))
set_option maxRecDepth 100000 in
set_option maxHeartbeats 2000000 in
theorem appendEndTxnRequest (w0 : World) (ver : Int) (hV : hasV 0 none ver = true) (b o : Nat) (v : GV) (hver : w0.cell? ⟨b, o + 0, none⟩ = some (.int .i16 ver)) (hrep : Rep noTags [] w0 ver (hasV 3 none ver) schEndTxnRequest b o v)
    (hl : (ap ver (hasV 3 none ver) schEndTxnRequest v).length ≤ lim) : Calls Try.prog 51 #[.pointer (some ⟨b, o, none⟩), .slice none 0 0] w0 (Appended w0.heap.size w0 (ap ver (hasV 3 none ver) schEndTxnRequest v)) := by
  have hTags := tags_none
  refine calls_append_flex (N := 11) (nt := 66) (m := 3) Try.func51 rfl rfl rfl fa_105_0 oc_67 (by decide) hver hrep ?_ hl
  generalize hasV 3 none ver = flex
  unfold schEndTxnRequest
  exact (appRS_cons (lo := 7) (t := 19) (kok2 (by decide)) (by decide) (appFV_always hV (appF_leaf (kok2 (by decide)) (by decide) fa_105_1 oc_9 ⟨by decide, by decide, by decide, by decide⟩ (lo' := 8) (t' := 19) (by decide) (fun h => by cases h) (appL2 (kok2 (by decide)) (by decide) mem2b ⟨by decide, by decide, by decide, by decide⟩ (by decide) (fun h => by subst h; exact appL1 en_72 (leaf_str_true ver) ⟨by decide, by decide, by decide, by decide⟩ (by decide)) (fun h => by subst h; exact appL1 en_73 (leaf_str_false ver) ⟨by decide, by decide, by decide, by decide⟩ (by decide)))))
 (appRS_cons (lo := 7) (t := 30) (kok2 (by decide)) (by decide) (appFV_always hV (appF_leaf (kok2 (by decide)) (by decide) fa_105_2 oc_2 ⟨by decide, by decide, by decide, by decide⟩ (lo' := 9) (t' := 30) (by decide) (fun h => by cases h) (appL1 en_52 (leaf_i64 ver flex) ⟨by decide, by decide, by decide, by decide⟩ (by decide))))
 (appRS_cons (lo := 7) (t := 37) (kok2 (by decide)) (by decide) (appFV_always hV (appF_leaf (kok2 (by decide)) (by decide) fa_105_3 oc_67 ⟨by decide, by decide, by decide, by decide⟩ (lo' := 10) (t' := 37) (by decide) (fun h => by cases h) (appL1 en_57 (leaf_i16 ver flex) ⟨by decide, by decide, by decide, by decide⟩ (by decide))))
 (appRS_cons (lo := 7) (t := 44) (kok2 (by decide)) (by decide) (appFV_always hV (appF_leaf (kok2 (by decide)) (by decide) fa_105_4 oc_4 ⟨by decide, by decide, by decide, by decide⟩ (lo' := 11) (t' := 44) (by decide) (fun h => by cases h) (appL1 en_70 (leaf_bool ver flex) ⟨by decide, by decide, by decide, by decide⟩ (by decide))))
 (appRS_end (lo := 7) (t := 51) (kok2 (by decide)) (by decide) (appS_tags (lo := 7) (t := 51) (kok2 (by decide)) (by decide) mem2b fa_105_5 fa_105_5 Try.underlying3 Try.underlying90 en_59 en_60 en_58 hTags uvOK ⟨by decide, by decide, by decide, by decide⟩ (by decide)) (fun _ _ => AppR.ret (by decide)))))))
end Go.Proofs.Ytdiemlkpboahgaa
