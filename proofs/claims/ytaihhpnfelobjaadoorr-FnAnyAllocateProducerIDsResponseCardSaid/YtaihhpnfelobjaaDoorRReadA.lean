/- The functions readFrom and AppendTo of some messages. Printed by readgen.py. -/
import Derived.Test.YtaihhpnfelobjaaDoorRRtop
namespace Go.Proofs.YtaihhpnfelobjaaDoorR
open Go Go.RowKit
set_option linter.unusedVariables false
/-- What a SASLAuthenticateRequest has. -/
def schSASLAuthenticateRequest : Sch := (.cons 1 0 none (.leaf .bytes) (.tags 2))
/-- What a AllocateProducerIDsResponse has. -/
def schAllocateProducerIDsResponse : Sch := (.cons 1 0 none (.leaf .i32) (.cons 2 0 none (.leaf .i16) (.cons 3 0 none (.leaf .i64) (.cons 4 0 none (.leaf .i32) (.tags 5)))))
theorem fa_120_0 : FieldAt Tryd.prog 120 0 0 := fieldAt_mk (ft := 56) (i := Tryd.t56) Tryd.underlying120 rfl (by kernel_rfl) (by decide)
theorem fa_120_1 : FieldAt Tryd.prog 120 1 1 := fieldAt_mk (ft := 26) (i := Tryd.t26) Tryd.underlying120 rfl (by kernel_rfl) (by decide)
theorem fa_120_2 : FieldAt Tryd.prog 120 2 2 := fieldAt_mk (ft := 101) (i := Tryd.t101) Tryd.underlying120 rfl (by kernel_rfl) (by decide)
theorem fa_126_0 : FieldAt Tryd.prog 126 0 0 := fieldAt_mk (ft := 56) (i := Tryd.t56) Tryd.underlying126 rfl (by kernel_rfl) (by decide)
theorem fa_126_1 : FieldAt Tryd.prog 126 1 1 := fieldAt_mk (ft := 21) (i := Tryd.t21) Tryd.underlying126 rfl (by kernel_rfl) (by decide)
theorem fa_126_2 : FieldAt Tryd.prog 126 2 2 := fieldAt_mk (ft := 56) (i := Tryd.t56) Tryd.underlying126 rfl (by kernel_rfl) (by decide)
theorem fa_126_3 : FieldAt Tryd.prog 126 3 3 := fieldAt_mk (ft := 2) (i := Tryd.t2) Tryd.underlying126 rfl (by kernel_rfl) (by decide)
theorem fa_126_4 : FieldAt Tryd.prog 126 4 4 := fieldAt_mk (ft := 21) (i := Tryd.t21) Tryd.underlying126 rfl (by kernel_rfl) (by decide)
theorem fa_126_5 : FieldAt Tryd.prog 126 5 5 := fieldAt_mk (ft := 101) (i := Tryd.t101) Tryd.underlying126 rfl (by kernel_rfl) (by decide)
theorem oc_2 : OneCell Tryd.prog 2 := ⟨fun w => Tryd.isAgg2 w, ⟨Tryd.t2, by kernel_rfl, rfl⟩⟩
theorem oc_21 : OneCell Tryd.prog 21 := ⟨fun w => Tryd.isAgg21 w, ⟨Tryd.t21, by kernel_rfl, rfl⟩⟩
theorem oc_26 : OneCell Tryd.prog 26 := ⟨fun w => Tryd.isAgg26 w, ⟨Tryd.t26, by kernel_rfl, rfl⟩⟩
theorem oc_56 : OneCell Tryd.prog 56 := ⟨fun w => Tryd.isAgg56 w, ⟨Tryd.t56, by kernel_rfl, rfl⟩⟩
theorem sz_101 : ∃ i, Tryd.prog.info? 101 = some i ∧ i.size = 1 := ⟨Tryd.t101, by kernel_rfl, rfl⟩
theorem def_104 (w : World) (b o T : Nat) (cs : List Value) (hB : Blk w b cs T) (hF : Fresh cs o schSASLAuthenticateRequest) : DefT Tryd.prog 104 b o T 0 schSASLAuthenticateRequest w := DefW.defT (nt := 2) (n := 1) Tryd.func104 rfl rfl (by decide) rfl DefW.skip (by decide) w b o T cs hB hF
theorem def_111 (w : World) (b o T : Nat) (cs : List Value) (hB : Blk w b cs T) (hF : Fresh cs o schAllocateProducerIDsResponse) : DefT Tryd.prog 111 b o T 0 schAllocateProducerIDsResponse w := DefW.defT (nt := 2) (n := 1) Tryd.func111 rfl rfl (by decide) rfl DefW.skip (by decide) w b o T cs hB hF
set_option maxRecDepth 100000 in
set_option maxHeartbeats 2000000 in
theorem appendSASLAuthenticateRequest (w0 : World) (ver : Int) (hV : hasV 0 none ver = true) (b o : Nat) (v : GV) (hver : w0.cell? ⟨b, o + 0, none⟩ = some (.int .i16 ver)) (hrep : Rep TagMem [] w0 ver (hasV 2 none ver) schSASLAuthenticateRequest b o v)
    (hl : (ap ver (hasV 2 none ver) schSASLAuthenticateRequest v).length ≤ lim) : Calls Tryd.prog 66 #[.pointer (some ⟨b, o, none⟩), .slice none 0 0] w0 (Appended w0.heap.size w0 (ap ver (hasV 2 none ver) schSASLAuthenticateRequest v)) := by
  have hTags := (tagsOK sortOK)
  refine calls_append_flex (N := 8) (nt := 42) (m := 2) Tryd.func66 rfl rfl rfl fa_120_0 oc_56 (by decide) hver hrep ?_ hl
  generalize hasV 2 none ver = flex
  unfold schSASLAuthenticateRequest
  exact (appRS_cons (lo := 7) (t := 16) (kok2 (by decide)) (by decide) (appFV_always hV (appF_leaf (kok2 (by decide)) (by decide) fa_120_1 oc_26 ⟨by decide, by decide, by decide, by decide⟩ (lo' := 8) (t' := 16) (by decide) (fun h => by cases h) (appL2 (kok2 (by decide)) (by decide) mem2b ⟨by decide, by decide, by decide, by decide⟩ (by decide) (fun h => by subst h; exact appL1 en_106 (leaf_bytes_true ver) ⟨by decide, by decide, by decide, by decide⟩ (by decide)) (fun h => by subst h; exact appL1 en_107 (leaf_bytes_false ver) ⟨by decide, by decide, by decide, by decide⟩ (by decide)))))
 (appRS_end (lo := 7) (t := 27) (kok2 (by decide)) (by decide) (appS_tags (lo := 7) (t := 27) (kok2 (by decide)) (by decide) mem2b fa_120_2 fa_120_2 Tryd.underlying3 Tryd.underlying95 en_98 en_99 en_97 hTags uvOK ⟨by decide, by decide, by decide, by decide⟩ (by decide)) (fun _ _ => AppR.ret (by decide))))
set_option maxRecDepth 100000 in
set_option maxHeartbeats 4000000 in
theorem readSASLAuthenticateRequest (E : Value) (w : World) (ver : Int) (hV : hasV 0 none ver = true) (b o T : Nat) (cs : List Value) (src : Value) (bs : List UInt8) (hB : Blk w b cs T) (hF : Fresh cs o schSASLAuthenticateRequest) (hver : w.cell? ⟨b, o + 0, none⟩ = some (.int .i16 ver)) (hs : RB [b] w src bs) (hbs : bs.length ≤ 2147483646)
    (hE : w.cell? ⟨2, 0, none⟩ = some E) (hgE : 2 ≠ b) : Calls Tryd.prog 105 #[.pointer (some ⟨b, o, none⟩), src, .bool false] w (ReadPost TagMem E ver (hasV 2 none ver) schSASLAuthenticateRequest b o 0 bs w) := by
  have hC : CompleteC Tryd.prog 127 2 E := fun O rb w st h hE => rComplete O rb w st E h hE
  have hDef := def_104 w b o T cs hB hF
  refine calls_read_flex (N := 12) (nt := 38) (m := 2) (n := 1) (gE := 2) Tryd.func105 rfl rfl rfl Tryd.call104 fa_120_0 oc_56 mcReader rfl (fun ad n m => by kernel_rfl) (by decide) (by decide) tags_mono (by decide) ?_ hver hDef hs hbs hE hgE hB.lt
  generalize hasV 2 none ver = flex
  clear hDef hF
  unfold schSASLAuthenticateRequest
  exact (rdR_cons tags_keep (kokD rfl) ⟨by decide, by decide, by decide, by decide⟩ (by decide) (rdFV_always hV (rdL_var (kokD rfl) ⟨by decide, by decide, by decide, by decide⟩ (by decide) (rdL_flag (kokD rfl) (List.mem_cons_of_mem _ (List.mem_cons_self ..)) ⟨by decide, by decide, by decide, by decide⟩ (by decide) (fun h => by subst h; exact (rdL_call en_134 leafCompactBytes ⟨by decide, by decide, by decide, by decide⟩ (by decide))) (fun h => by subst h; exact (rdL_call en_135 leafBytes ⟨by decide, by decide, by decide, by decide⟩ (by decide)))) (rdF_leaf (t2 := 0) (kokD rfl) fa_120_1 oc_26 ⟨by decide, by decide, by decide, by decide⟩ (by decide) (fun h => by cases h) (rdL_flag (kokD rfl) (List.mem_cons_of_mem _ (List.mem_cons_self ..)) ⟨by decide, by decide, by decide, by decide⟩ (by decide) (fun h => by subst h; exact (rdL_call en_134 leafCompactBytes ⟨by decide, by decide, by decide, by decide⟩ (by decide))) (fun h => by subst h; exact (rdL_call en_135 leafBytes ⟨by decide, by decide, by decide, by decide⟩ (by decide))))) (kokD rfl)))
 (rdR_end (kokD rfl) ⟨by decide, by decide, by decide, by decide⟩ en_127 hC (by decide) (rdS_tags (kokD rfl) (List.mem_cons_of_mem _ (List.mem_cons_self ..)) fa_120_2 sz_101 Tryd.call126 tags_zero tagsRead ⟨by decide, by decide, by decide, by decide⟩ (by decide))))
set_option maxRecDepth 100000 in
set_option maxHeartbeats 2000000 in
theorem appendAllocateProducerIDsResponse (w0 : World) (ver : Int) (hV : hasV 0 none ver = true) (b o : Nat) (v : GV) (hver : w0.cell? ⟨b, o + 0, none⟩ = some (.int .i16 ver)) (hrep : Rep TagMem [] w0 ver (hasV 0 none ver) schAllocateProducerIDsResponse b o v)
    (hl : (ap ver (hasV 0 none ver) schAllocateProducerIDsResponse v).length ≤ lim) : Calls Tryd.prog 76 #[.pointer (some ⟨b, o, none⟩), .slice none 0 0] w0 (Appended w0.heap.size w0 (ap ver (hasV 0 none ver) schAllocateProducerIDsResponse v)) := by
  have hTags := (tagsOK sortOK)
  refine calls_append_flex (N := 11) (nt := 62) (m := 0) Tryd.func76 rfl rfl rfl fa_126_0 oc_56 (by decide) hver hrep ?_ hl
  generalize hasV 0 none ver = flex
  unfold schAllocateProducerIDsResponse
  exact (appRS_cons (lo := 7) (t := 19) (kok2 (by decide)) (by decide) (appFV_always hV (appF_leaf (kok2 (by decide)) (by decide) fa_126_1 oc_21 ⟨by decide, by decide, by decide, by decide⟩ (lo' := 8) (t' := 19) (by decide) (fun h => by cases h) (appL1 en_110 (leaf_i32 ver flex) ⟨by decide, by decide, by decide, by decide⟩ (by decide))))
 (appRS_cons (lo := 7) (t := 26) (kok2 (by decide)) (by decide) (appFV_always hV (appF_leaf (kok2 (by decide)) (by decide) fa_126_2 oc_56 ⟨by decide, by decide, by decide, by decide⟩ (lo' := 9) (t' := 26) (by decide) (fun h => by cases h) (appL1 en_96 (leaf_i16 ver flex) ⟨by decide, by decide, by decide, by decide⟩ (by decide))))
 (appRS_cons (lo := 7) (t := 33) (kok2 (by decide)) (by decide) (appFV_always hV (appF_leaf (kok2 (by decide)) (by decide) fa_126_3 oc_2 ⟨by decide, by decide, by decide, by decide⟩ (lo' := 10) (t' := 33) (by decide) (fun h => by cases h) (appL1 en_113 (leaf_i64 ver flex) ⟨by decide, by decide, by decide, by decide⟩ (by decide))))
 (appRS_cons (lo := 7) (t := 40) (kok2 (by decide)) (by decide) (appFV_always hV (appF_leaf (kok2 (by decide)) (by decide) fa_126_4 oc_21 ⟨by decide, by decide, by decide, by decide⟩ (lo' := 11) (t' := 40) (by decide) (fun h => by cases h) (appL1 en_110 (leaf_i32 ver flex) ⟨by decide, by decide, by decide, by decide⟩ (by decide))))
 (appRS_end (lo := 7) (t := 47) (kok2 (by decide)) (by decide) (appS_tags (lo := 7) (t := 47) (kok2 (by decide)) (by decide) mem2b fa_126_5 fa_126_5 Tryd.underlying3 Tryd.underlying95 en_98 en_99 en_97 hTags uvOK ⟨by decide, by decide, by decide, by decide⟩ (by decide)) (fun _ _ => AppR.ret (by decide)))))))
set_option maxRecDepth 100000 in
set_option maxHeartbeats 4000000 in
theorem readAllocateProducerIDsResponse (E : Value) (w : World) (ver : Int) (hV : hasV 0 none ver = true) (b o T : Nat) (cs : List Value) (src : Value) (bs : List UInt8) (hB : Blk w b cs T) (hF : Fresh cs o schAllocateProducerIDsResponse) (hver : w.cell? ⟨b, o + 0, none⟩ = some (.int .i16 ver)) (hs : RB [b] w src bs) (hbs : bs.length ≤ 2147483646)
    (hE : w.cell? ⟨2, 0, none⟩ = some E) (hgE : 2 ≠ b) : Calls Tryd.prog 112 #[.pointer (some ⟨b, o, none⟩), src, .bool false] w (ReadPost TagMem E ver (hasV 0 none ver) schAllocateProducerIDsResponse b o 0 bs w) := by
  have hC : CompleteC Tryd.prog 127 2 E := fun O rb w st h hE => rComplete O rb w st E h hE
  have hDef := def_111 w b o T cs hB hF
  refine calls_read_flex (N := 15) (nt := 54) (m := 0) (n := 1) (gE := 2) Tryd.func112 rfl rfl rfl Tryd.call111 fa_126_0 oc_56 mcReader rfl (fun ad n m => by kernel_rfl) (by decide) (by decide) tags_mono (by decide) ?_ hver hDef hs hbs hE hgE hB.lt
  generalize hasV 0 none ver = flex
  clear hDef hF
  unfold schAllocateProducerIDsResponse
  exact (rdR_cons tags_keep (kokD rfl) ⟨by decide, by decide, by decide, by decide⟩ (by decide) (rdFV_always hV (rdF_leaf (t2 := 0) (kokD rfl) fa_126_1 oc_21 ⟨by decide, by decide, by decide, by decide⟩ (by decide) (fun h => by cases h) (rdL_call en_136 leafInt32 ⟨by decide, by decide, by decide, by decide⟩ (by decide))))
 (rdR_cons tags_keep (kokD rfl) ⟨by decide, by decide, by decide, by decide⟩ (by decide) (rdFV_always hV (rdF_leaf (t2 := 0) (kokD rfl) fa_126_2 oc_56 ⟨by decide, by decide, by decide, by decide⟩ (by decide) (fun h => by cases h) (rdL_call en_125 leafInt16 ⟨by decide, by decide, by decide, by decide⟩ (by decide))))
 (rdR_cons tags_keep (kokD rfl) ⟨by decide, by decide, by decide, by decide⟩ (by decide) (rdFV_always hV (rdF_leaf (t2 := 0) (kokD rfl) fa_126_3 oc_2 ⟨by decide, by decide, by decide, by decide⟩ (by decide) (fun h => by cases h) (rdL_call en_138 leafInt64 ⟨by decide, by decide, by decide, by decide⟩ (by decide))))
 (rdR_cons tags_keep (kokD rfl) ⟨by decide, by decide, by decide, by decide⟩ (by decide) (rdFV_always hV (rdF_leaf (t2 := 0) (kokD rfl) fa_126_4 oc_21 ⟨by decide, by decide, by decide, by decide⟩ (by decide) (fun h => by cases h) (rdL_call en_136 leafInt32 ⟨by decide, by decide, by decide, by decide⟩ (by decide))))
 (rdR_end (kokD rfl) ⟨by decide, by decide, by decide, by decide⟩ en_127 hC (by decide) (rdS_tags (kokD rfl) (List.mem_cons_of_mem _ (List.mem_cons_self ..)) fa_126_5 sz_101 Tryd.call126 tags_zero tagsRead ⟨by decide, by decide, by decide, by decide⟩ (by decide)))))))
end Go.Proofs.YtaihhpnfelobjaaDoorR
