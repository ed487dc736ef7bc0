/- Octets that came in, as the walks take them. -/
import Derived.Test.YtfchajjllhndlaaBase
import Derived.OpenShut
import Derived.ProofKit
namespace Go.Proofs.Ytfchajjllhndlaa
open Go Go.RowKit Go.ChangeShapes

theorem wf_u8 {z : Int} (h : (Lit.int .u8 z).wf = true) : 0 ≤ z ∧ z ≤ 255 := by
  have hmin : IntKind.u8.min = 0 := rfl
  have hmax : IntKind.u8.max = 255 := rfl
  simpa only [Lit.wf, Bool.and_eq_true, decide_eq_true_eq, hmin, hmax] using h
theorem rb_of_ints {W : World} {a : Addr} {len cap : Nat} {zs : List Int} (hl : len ≤ cap) (hm : cap ≤ maxLen) (hz : len ≤ zs.length)
    (hcell : ∀ i, i < zs.length → W.cell? (a.add i) = some (.int .u8 (zs.getD i 0))) (hw : ∀ n ∈ zs, (Lit.int .u8 n).wf = true) :
    ∃ bs : List UInt8, bs.length = len ∧ RB [] W (.slice (some a) len cap) bs := by
  refine ⟨(zs.take len).map fun z => UInt8.ofNat z.toNat, by simp; omega, ?_⟩
  have e : ((zs.take len).map fun z => UInt8.ofNat z.toNat).length = len := by simp; omega
  refine ⟨some a, cap, by rw [e], by rw [e]; exact hl, by unfold maxLen at hm; omega, fun hne => ?_⟩
  have h0 : 0 < zs.length := by
    rcases Nat.eq_zero_or_pos zs.length with h | h
    · have : zs = [] := List.eq_nil_of_length_eq_zero h
      subst this
      simp at hne
    · exact h
  obtain ⟨b, o, spot⟩ := a
  cases spot with
  | some s =>
    have := hcell 0 h0
    simp [World.cell?, Addr.add] at this
    cases hh : W.heap[b]? with
    | none => rw [hh] at this; cases this
    | some ob => rw [hh] at this; cases ob <;> cases this
  | none =>
    refine ⟨b, o, rfl, by simp, fun i u hi => ?_⟩
    rw [List.getElem?_map, List.getElem?_take] at hi
    split at hi
    · rename_i hlt
      have hi2 : i < zs.length := by omega
      rw [List.getElem?_eq_getElem hi2] at hi
      simp only [Option.map_some, Option.some.injEq] at hi
      have hc := hcell i hi2
      rw [Addr.add_lit] at hc
      have hb := wf_u8 (hw _ (List.getElem_mem hi2))
      rw [hc, ← hi]
      unfold byteV
      have e2 : zs.getD i 0 = zs[i] := by simp [List.getD, hi2]
      rw [e2]
      have e3 : ((UInt8.ofNat zs[i].toNat).toNat : Int) = zs[i] := by
        rw [UInt8.toNat_ofNat']
        omega
      rw [e3]
    · cases hi
end Go.Proofs.Ytfchajjllhndlaa
