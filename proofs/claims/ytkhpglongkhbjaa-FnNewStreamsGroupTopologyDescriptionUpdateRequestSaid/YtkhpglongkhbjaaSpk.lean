/- Fields that are laid new; a message that is handed back. -/
import Derived.Test.YtkhpglongkhbjaaSpi
import Derived.Test.YtkhpglongkhbjaaSpj
import Derived.Test.YtkhpglongkhbjaaRep
namespace Go.Proofs.Ytkhpglongkhbjaa
open Go Go.RowKit

theorem RepFC.mono {B B' : Nat} {w : World} (hB : B ≤ B') : ∀ {fs : PFs} {p q : Nat}, RepFC B w fs p q → RepFC B' w fs p q
  | .nil, _, _, _ => trivial
  | .cons _ _ _ _ _ _ _ sub rest, p, q, h => by
    obtain ⟨h1, ⟨v, h8, a, cap, h9, hle, h10⟩, h11⟩ := h
    refine ⟨h1, ⟨v, h8, a, cap, h9, hle, fun hn => ?_⟩, RepFC.mono hB h11⟩
    obtain ⟨p', q', ha, hp', hr⟩ := h10 hn
    exact ⟨p', q', ha, by omega, RepFC.mono hB hr⟩
theorem RepF.up {B : Nat} {w w' : World} {fs : PFs} {v : Value} (h : RepF B w fs v) (hk : Below B w w') (hB : B ≤ w'.heap.size) : RepF w'.heap.size w' fs v := by
  obtain ⟨a, cap, hv, hle, h⟩ := h.below hk
  refine ⟨a, cap, hv, hle, fun hn => ?_⟩
  obtain ⟨p, q, ha, hp, hr⟩ := h hn
  exact ⟨p, q, ha, by omega, hr.mono hB⟩
theorem RepF.upB {B B' : Nat} {w : World} {fs : PFs} {v : Value} (h : RepF B w fs v) (hB : B ≤ B') : RepF B' w fs v := by
  obtain ⟨a, cap, hv, hle, h⟩ := h
  refine ⟨a, cap, hv, hle, fun hn => ?_⟩
  obtain ⟨p, q, ha, hp, hr⟩ := h hn
  exact ⟨p, q, ha, by omega, hr.mono hB⟩
/-- Fields never lie in a block of two cells. -/
theorem RepFC.other {B g T i : Nat} {w : World} {c0 c1 v : Value} (hg : Blk w g [c0, c1] T) : ∀ {fs : PFs} {p q : Nat}, RepFC B w fs p q → RepFC B (w.setCell ⟨g, i, none⟩ v) fs p q
  | .nil, _, _, _ => trivial
  | .cons _ _ _ _ _ _ _ sub rest, p, q, h => by
    obtain ⟨⟨h1, h2, h3, h4, h5, h6, h7⟩, ⟨x, h8, a, cap, h9, hle, h10⟩, h11⟩ := h
    have hne : p ≠ g := by
      intro e
      subst e
      rw [hg.cell] at h8
      simp at h8
    have hc : ∀ j, (w.setCell ⟨g, i, none⟩ v).cell? ⟨p, j, none⟩ = w.cell? ⟨p, j, none⟩ := fun j => World.cell?_of_block (Below.heap_setCell _ _ _ _ hne)
    refine ⟨⟨(hc _).trans h1, (hc _).trans h2, (hc _).trans h3, (hc _).trans h4, (hc _).trans h5, (hc _).trans h6, (hc _).trans h7⟩, ⟨x, (hc _).trans h8, a, cap, h9, hle, fun hn => ?_⟩, RepFC.other hg h11⟩
    obtain ⟨p', q', ha, hp', hr⟩ := h10 hn
    exact ⟨p', q', ha, hp', RepFC.other hg hr⟩
theorem RepF.other {B g T i : Nat} {w : World} {c0 c1 v x : Value} {fs : PFs} (h : RepF B w fs x) (hg : Blk w g [c0, c1] T) : RepF B (w.setCell ⟨g, i, none⟩ v) fs x := by
  obtain ⟨a, cap, hv, hle, h⟩ := h
  refine ⟨a, cap, hv, hle, fun hn => ?_⟩
  obtain ⟨p, q, ha, hp, hr⟩ := h hn
  exact ⟨p, q, ha, hp, hr.other hg⟩
theorem msgUnder : ∃ fs, Try.prog.underlying 25 = some (.struct fs) := ⟨_, Try.underlying25⟩
theorem msgSize : (Try.prog.info? 25).map (·.size) = some 2 := by kernel_rfl
theorem ret_msg {fn : Func} {p : Tmp} {R : Ending → World → Prop} {a : Act} {w : World} {g : Nat} {c0 c1 : Value} (hr : fn.results = #[.cell p 25]) (hp : a.tmps.getD p undef = .pointer (some ⟨g, 0, none⟩))
    (hg : Blk w g [c0, c1] 25) (hd : a.defers = []) (h : R (.returned (.agg #[c0, c1])) w) : bodyPost Try.prog fn R .ret a w := by
  obtain ⟨fs, hu⟩ := msgUnder
  exact bodyPost_ret_by (results_cell_row hr _ _ g _ _ (0, 0) _ hp hg hu rfl (by rw [msgSize]; rfl)) hd h
/-- The function hands back these fields, laid new. -/
def GivesF (f : Nat) (fs : PFs) : Prop := ∀ w : World, Calls Try.prog f #[] w fun e w' => ∃ v, e = .returned v ∧ RepF w'.heap.size w' fs v ∧ Below w.heap.size w w'
/-- The function hands back this message. -/
def GivesM (f : Nat) (fs : PFs) (flex : Int) : Prop := ∀ w : World, Calls Try.prog f #[] w fun e w' => ∃ v, e = .returned (.agg #[v, .int .i64 flex]) ∧ RepF w'.heap.size w' fs v ∧ Below w.heap.size w w'
theorem uuid0 {O : List Nat} {w : World} {b T o : Nat} {c : List Value} (h : Blk w b c T) (hc : ∀ i, i < 16 → c[o + i]? = some (.int .u8 0)) (flex : Bool) : RepLeaf O w flex b o .uuid (.bytes (List.replicate 16 0)) := by
  refine ⟨rfl, fun i u hu => ?_⟩
  have hi : i < 16 := by simpa using (List.getElem?_eq_some_iff.1 hu).1
  have e : u = 0 := by
    rw [List.getElem?_replicate] at hu
    simp [hi] at hu
    exact hu.symm
  subst e
  exact h.cell_some (hc i hi)
theorem noU_mem : ∀ {fs : PFs}, fs.flat → ∀ t, t ∈ pDefault fs → NoU t
  | .nil, _, t, h => by simp [pDefault] at h
  | .cons _ _ _ _ _ _ _ _ rest, hf, t, h => by
    rw [pDefault_flat hf.1] at h
    rcases List.mem_cons.1 h with rfl | h
    · exact .mk _ _ _ _ (fun t h => by simp at h)
    · exact noU_mem hf.2.2 t h
theorem noU_default {fs : PFs} (hf : fs.flat) : NoU (.mk 0 [] false (pDefault fs) []) := .mk _ _ _ _ (noU_mem hf)
theorem keep2 {n g : Nat} {w w' : World} {v0 v1 : Value} (hb : Below n w w') (hg : g < n) (h : w.cell? ⟨g, 0, none⟩ = some v0 ∧ w.cell? ⟨g, 1, none⟩ = some v1) : w'.cell? ⟨g, 0, none⟩ = some v0 ∧ w'.cell? ⟨g, 1, none⟩ = some v1 :=
  ⟨(hb.cell (p := ⟨g, 0, none⟩) hg).trans h.1, (hb.cell (p := ⟨g, 1, none⟩) hg).trans h.2⟩
theorem Below.grownW {w w' : World} (h : Below w.heap.size w w') (hf : ∀ a, w'.frozen? a = w.frozen? a) : Grown w w' := ⟨h.frame _, hf, h.size⟩
end Go.Proofs.Ytkhpglongkhbjaa
