/- Unknown tags: internalReadTags. -/
import Derived.Test.YtellhjpdpaeieaaDoorTgb
namespace Go.Proofs.YtellhjpdpaeieaaDoor
open Go Go.RowKit Go.Maps
set_option linter.unusedVariables false

def numOf : Value → Nat
  | .int _ n => n.toNat
  | _ => 0
theorem tg_start {O : List Nat} {rb T : Nat} {w w1 : World} {st : Option (List UInt8)} {N : Nat} (hlt : ∀ k, k ∈ O → k < w.heap.size) (hrb : rb ∈ O)
    (hb2 : Blk w1 w.heap.size [.map none] T) (hb3 : Blk w1 (w.heap.size + 1) [.map none] T) (hr : Rdr ((w.heap.size + 1) :: w.heap.size :: O) w1 rb st) (hk : Keeps [rb] w w1) :
    TgInv O rb w.heap.size (w.heap.size + 1) T w st N 0 none (.map []) (.int .u32 (N : Nat)) w1 := by
  have e : st.bind (rdMany rdTag1 0) = st.map fun bs => ([], bs) := by cases st <;> rfl
  refine ⟨by omega, by simp, hb3, hb2, rfl, fun g hg => (by cases hg), ?_, hk, fun l r hl => ?_⟩
  · rw [e, Option.map_map]
    have : (Option.map ((fun x : List (Nat × List UInt8) × List UInt8 => x.2) ∘ fun bs => ([], bs)) st) = st := by cases st <;> rfl
    rw [this]
    exact hr
  · rw [e] at hl
    cases st with
    | none => cases hl
    | some bs =>
      simp only [Option.map_some, Option.some.injEq, Prod.mk.injEq] at hl
      obtain ⟨rfl, rfl⟩ := hl
      exact View.nil _ _
def TagPost (O : List Nat) (rb : Nat) (w : World) (st : Option (List UInt8)) (e : Ending) (w' : World) : Prop :=
  ∃ m, e = .returned (.agg #[.map m]) ∧ Rdr O w' rb ((st.bind rdTagsRaw).map (·.2)) ∧ Keeps [rb] w w' ∧ ∀ l r, st.bind rdTagsRaw = some (l, r) → ∀ (w2 : World) (b o : Nat), Keeps O w' w2 → w2.cell? ⟨b, o, none⟩ = some (.map m) → TagMem O w2 b o (tagSort l)
theorem tg_end {O : List Nat} {rb T N j : Nat} {w wr : World} {st : Option (List UInt8)} {m : Option Nat} {D : VD} {v : Value} (h : TgInv O rb w.heap.size (w.heap.size + 1) T w ((st.bind rdUv).map (·.2)) N j m D v wr) (hj : j = N) (hrb : rb ∈ O) (hlt : ∀ k, k ∈ O → k < w.heap.size)
    (hg : ∀ n r, st.bind rdUv = some (n, r) → n = N) (hN : N ≤ 4294967296) (hM : ∀ bs, st = some bs → bs.length ≤ 2147483646) : TagPost O rb w st (.returned (.agg #[.map m])) (wr.setCell ⟨w.heap.size, 0, none⟩ (.map m)) := by
  subst hj
  have hrbl := hlt rb hrb
  have hk : Keeps [w.heap.size] wr (wr.setCell ⟨w.heap.size, 0, none⟩ (.map m)) := (Keeps.refl _ _).setCell (by simp) _
  have hO2 : w.heap.size ∉ O := fun h => Nat.lt_irrefl _ (hlt _ h)
  have hkO : Keeps (tgO w.heap.size (w.heap.size + 1) m O) wr (wr.setCell ⟨w.heap.size, 0, none⟩ (.map m)) := hk.mono fun k hk => by rw [List.mem_singleton] at hk; subst hk; exact mem_tgO.2 (.inr (.inr (.inl rfl)))
  have e : st.bind rdTagsRaw = ((st.bind rdUv).map (·.2)).bind (rdMany rdTag1 j) := by
    unfold rdTagsRaw
    rw [bind_st]
    cases hx : st.bind rdUv with
    | none => rfl
    | some q =>
      have := hg q.1 q.2 hx
      subst this
      rfl
  refine ⟨m, rfl, ?_, ?_, fun l r hl w2 b o hk2 hc => ⟨m, j, D, hc, ?_, hN, ?_, fun g hg' hgO => ?_, ?_⟩⟩
  · rw [e]
    exact (h.rdr.other hk (by simp; omega) (by intro k hk'; rw [List.mem_singleton] at hk'; subst hk'; exact mem_tgO.2 (.inr (.inr (.inl rfl))))).mono fun k hk => mem_tgO.2 (.inr (.inr (.inr hk)))
  · exact ((h.keeps.mono (O' := [w.heap.size, rb]) (by simp)).trans (hk.mono (by simp))).close (Nat.le_refl _)
  · have h1 : MapAt (wr.setCell ⟨w.heap.size, 0, none⟩ (.map m)) m j D := h.map.keeps hk (fun g hg => by have := (h.new g hg).2.1; simpa using this)
    exact h1.keeps hk2 (fun g hg hgO => by have h1 := (h.new g hg).1; have := hlt g hgO; omega)
  · rw [e] at hl
    exact ((h.view l r hl).keeps hkO |>.mono fun k hk => mem_tgO.2 (.inr (.inr (.inr hk)))).keeps hk2
  · have h1 := (h.new g hg').1
    have := hlt g hgO
    omega
  · cases st with
    | none => cases hl
    | some bs =>
      obtain ⟨a1, a2, a3, a4, a5, a6⟩ := out_tagsRaw (hM bs rfl) hl
      exact ⟨by unfold M at a3; omega, fun t ht => (a5 t ht).2⟩
theorem results_cell1 {fn : Func} {t U : Nat} {P : Program} {w : World} {ad : Addr} {x : Value} {tmps : Array Value} (h : fn.results = #[.cell t U]) (ht : tmps.getD t undef = .pointer (some ad)) (hU : ManyCells P U 1) (hc : w.cell? ad = some x) :
    (results fn tmps).run P w = .ok (.agg #[x]) w := by
  have h1 := run_load_many (P := P) hU (w := w) (ad := ad) (l := [x]) rfl (fun j v hj => by
    cases j with
    | zero => cases hj; rw [show ad.add 0 = ad by cases ad; simp [Addr.add]]; exact hc
    | succ j => simp at hj)
  have h2 : (loadVar U ad).run P w = .ok (.agg #[x]) w := by simpa [Instr.loadAt, Instr.sureAddr] using h1
  have h3 : tmps[t]?.getD undef = .pointer (some ad) := by simpa using ht
  simp [results, h, h3, asAddr, h2]
theorem mcTags : ManyCells Tryd.prog 50 1 := ⟨fun w => Tryd.isAgg50 w, ⟨Tryd.t50, _, by kernel_rfl, rfl, rfl, rfl⟩⟩
theorem cell_after {O : List Nat} {rb T N j : Nat} {w wr : World} {st : Option (List UInt8)} {m : Option Nat} {D : VD} {v : Value} (h : TgInv O rb w.heap.size (w.heap.size + 1) T w st N j m D v wr) : (wr.setCell ⟨w.heap.size, 0, none⟩ (.map m)).cell? ⟨w.heap.size, 0, none⟩ = some (.map m) := (h.b2.set 0 (.map m)).cell_some (i := 0) rfl
set_option maxHeartbeats 4000000 in
theorem tagsRead0 (O : List Nat) (rb : Nat) (w : World) (st : Option (List UInt8)) (hO : rb ∈ O) (hlt : ∀ k, k ∈ O → k < w.heap.size) (hr : Rdr O w rb st) : Calls Tryd.prog 82 #[.pointer (some ⟨rb, 0, none⟩)] w (TagPost O rb w st) := by
  have hb2 : Blk ((w.alloc (.cells #[.map none] 50)).alloc (.cells #[.map none] 50)) w.heap.size [.map none] 50 := by
    have h0 : Blk (w.alloc (.cells #[.map none] 50)) w.heap.size [.map none] 50 := heap_alloc_new w _
    exact h0.keeps ((Keeps.refl [] _).alloc _) (by simp)
  have hb3 : Blk ((w.alloc (.cells #[.map none] 50)).alloc (.cells #[.map none] 50)) (w.heap.size + 1) [.map none] 50 := by
    have h0 : Blk ((w.alloc (.cells #[.map none] 50)).alloc (.cells #[.map none] 50)) (w.alloc (.cells #[.map none] 50)).heap.size [.map none] 50 := heap_alloc_new _ _
    simpa using h0
  have hk2 : Keeps [] w ((w.alloc (.cells #[.map none] 50)).alloc (.cells #[.map none] 50)) := ((Keeps.refl [] w).alloc _).alloc _
  have hr2 : Rdr ((w.heap.size + 1) :: w.heap.size :: O) ((w.alloc (.cells #[.map none] 50)).alloc (.cells #[.map none] 50)) rb st :=
    ((hr.open (Nat.le_refl _)).open (Nat.le_succ _)).other hk2 (by simp) (by simp)
  have hlt2 : ∀ k, k ∈ (w.heap.size + 1) :: w.heap.size :: O → k < ((w.alloc (.cells #[.map none] 50)).alloc (.cells #[.map none] 50)).heap.size := by
    intro k hk
    simp only [List.mem_cons] at hk
    rcases hk with rfl | rfl | hk
    · exact hb3.lt
    · exact hb2.lt
    · exact Nat.lt_of_lt_of_le (hlt k hk) hk2.size
  have C := Lib.hid (rUvarint _ rb _ st (List.mem_cons_of_mem _ (List.mem_cons_of_mem _ hO)) hlt2 hr2)
  have hrbl := hlt rb hO
  have HM := Lib.hid (show ∀ bs, st = some bs → bs.length ≤ 2147483646 from fun bs h => by subst h; obtain ⟨sv, h1, h2, h3⟩ := hr; exact h3)
  have HR := Lib.hid (And.intro hb2 (And.intro hb3 (And.intro (hk2.mono (O' := [rb]) (by simp)) (And.intro hlt (And.intro hO hrbl)))))
  clear hr hlt hO hb2 hb3 hr2 hlt2 hk2 hrbl
  go_enter Tryd.func82, Tryd.ntmps82
  go_wp2_with fail
  refine C.out.mono ?_
  intro e w1 hp
  obtain ⟨N, rfl, hN, h1, hk1, hg1⟩ := uvVal hp
  have hst := tg_start (st := (st.bind rdUv).map (·.2)) (N := N) HR.out.2.2.2.1 HR.out.2.2.2.2.1 (HR.out.1.keeps hk1 (by have := HR.out.2.2.2.2.2; simp; omega)) (HR.out.2.1.keeps hk1 (by have := HR.out.2.2.2.2.2; simp; omega)) h1 (HR.out.2.2.1.trans hk1)
  have HS := Lib.hid hst
  have HG := Lib.hid (And.intro hg1 hN)
  clear hp C h1 hk1 hg1 hst hN
  go_wp2
  go_loopw [4] (fun v wr => ∃ j m D, TgInv O rb w.heap.size (w.heap.size + 1) 50 w ((st.bind rdUv).map (·.2)) N j m D v wr) (fun v _ => numOf v)
  case atStart => exact ⟨0, none, .map [], HS.out⟩
  case round =>
    obtain ⟨j, m, D, hI⟩ := hrel
    obtain rfl := hI.val
    have hltO : ∀ k, k ∈ tgO w.heap.size (w.heap.size + 1) m O → k < wr.heap.size := by
      intro k hk
      rcases mem_tgO.1 hk with h | rfl | rfl | h
      · exact (hI.new k h).2.2.2
      · exact hI.b3.lt
      · exact hI.b2.lt
      · exact Nat.lt_of_lt_of_le (HR.out.2.2.2.1 k h) hI.keeps.size
    have hrbO : rb ∈ tgO w.heap.size (w.heap.size + 1) m O := mem_tgO.2 (.inr (.inr (.inr HR.out.2.2.2.2.1)))
    have HI := Lib.hid (And.intro hI (And.intro hltO hrbO))
    by_cases hj : j < N
    · have C1 := Lib.hid (rUvarint _ rb wr _ hrbO hltO hI.rdr)
      clear hI hltO hrbO
      have HJ := Lib.hid hj
      have hq : ∃ q : Nat, N - j = q ∧ 0 < q ∧ q ≤ 4294967295 := ⟨N - j, rfl, by omega, by have := HG.out.2; omega⟩
      obtain ⟨q, hq, hq0, hq1⟩ := hq
      rw [hq]
      have HQ := Lib.hid hq
      have hz0 : (0 : Int) < (q : Nat) := by omega
      have hz1 : ((q : Nat) : Int) ≤ 4294967295 := by omega
      clear hq hj hq0 hq1
      go_wp2_with fail
      refine C1.out.mono ?_
      intro e w1 hp
      obtain ⟨k1, rfl, hk1, r1, a1, g1⟩ := uvVal hp
      have C2 := Lib.hid (rUvarint _ rb w1 _ HI.out.2.2 (hlt_on HI.out.2.1 a1) r1)
      have H1 := Lib.hid (And.intro hk1 (And.intro r1 (And.intro a1 g1)))
      clear hp C1 hk1 r1 a1 g1
      go_wp2_with fail
      refine C2.out.mono ?_
      intro e w2 hp
      obtain ⟨k2, rfl, hk2, r2, a2, g2⟩ := uvVal hp
      have C3 := Lib.hid (rSpan _ rb w2 _ (k2 : Nat) HI.out.2.2 (hlt_on (hlt_on HI.out.2.1 H1.out.2.2.1) a2) r2)
      have hz2 : (0 : Int) ≤ (k2 : Nat) := by omega
      have hz3 : ((k2 : Nat) : Int) ≤ 4294967295 := by omega
      have H2 := Lib.hid (And.intro r2 (And.intro a2 g2))
      clear hp C2 hk2 r2 a2 g2
      go_wp2_with fail
      refine C3.out.mono ?_
      rintro e w3 ⟨v3, rfl, r3, a3, -, g3⟩
      have a13 := (H1.out.2.2.1.trans H2.out.2.1).trans a3
      have hrbw := HR.out.2.2.2.2.2
      have C4 := Lib.hid (tagsSet w3 (w.heap.size + 1) 50 m j D k1 v3 (HI.out.1.b3.keeps a13 (by simp; omega)) (HI.out.1.map.keeps a13 (fun g hg => by have := (HI.out.1.new g hg).1; simp; omega)) (by have := HJ.out; have := HG.out.2; unfold maxLen; omega) H1.out.1 (fun g hg => (HI.out.1.new g hg).2.2.1))
      have H3 := Lib.hid (And.intro r3 (And.intro a3 g3))
      clear C3 r3 a3 g3 a13 hrbw
      go_wp2_with fail
      refine C4.out.mono ?_
      rintro e w4 ⟨rfl, g, c1, c2, c3⟩
      have hstep := tg_step HI.out.1 HJ.out HR.out.2.2.2.2.1 (fun h => Nat.lt_irrefl _ (HR.out.2.2.2.1 _ h)) (fun h => by have := HR.out.2.2.2.1 _ h; omega) (by omega) (Nat.le_refl _) (Nat.le_succ _) HR.out.2.2.2.2.2 H1.out.2 H1.out.1 H2.out H3.out ⟨c1, c2, c3⟩
      have HS4 := Lib.hid hstep
      clear C4 c1 c2 c3 hstep
      go_wp2
      go_roundw
      case rel =>
        refine ⟨j + 1, some g, D.put (kl32 k1) (.held v3), ?_⟩
        have h := HS4.out
        have e1 : ((N - (j + 1) : Nat) : Int) = (q : Int) - 1 := by have := HQ.out; have := HJ.out; omega
        rw [e1] at h
        exact h
      case measure =>
        simp only [numOf]
        omega
    · have hN : N - j = 0 := by omega
      rw [hN]
      have HN := Lib.hid (show j = N by have := hI.le; omega)
      have m3 := hI.b3.cell_some (i := 0) rfl
      have f3 := hI.b3.frozen 0
      have m2 := hI.b2.cell_some (i := 0) rfl
      have f2 := hI.b2.frozen 0
      clear hI hltO hrbO hj hN
      go_wp2
      refine bodyPost_ret (results_cell1 (ad := ⟨w.heap.size, 0, none⟩) (x := .map m) rfl rfl mcTags (cell_after HI.out.1)) rfl ?_
      exact tg_end HI.out.1 HN.out HR.out.2.2.2.2.1 HR.out.2.2.2.1 HG.out.1 (by have := HG.out.2; omega) HM.out
theorem tagsRead : TagsRd TagMem Tryd.prog 82 := fun O rb w st hO hlt hr => tagsRead0 O rb w st hO hlt hr
end Go.Proofs.YtellhjpdpaeieaaDoor
