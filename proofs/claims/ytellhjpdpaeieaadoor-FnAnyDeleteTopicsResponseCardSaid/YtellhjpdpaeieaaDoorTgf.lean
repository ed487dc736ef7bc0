/- Unknown tags: their keys, sorted by Go's own sort.Slice. -/
import Derived.Test.YtellhjpdpaeieaaDoorTge
import Derived.Test.YtellhjpdpaeieaaDoorShelg
import Derived.Shelf.GgSortFunc.Whole
import Derived.Shelf.GgSortFunc.Tiny
import Derived.Deep.QuietTactic
import Derived.Lib.SortBridge
import Derived.Sort.LotA
namespace Go.Proofs.YtellhjpdpaeieaaDoor
open Go Go.RowKit Go.Sort Go.Lib
set_option linter.unusedVariables false

noncomputable def siT : TypeInfo := (Tryd.prog.info? 117).get (by kernel_rfl)
noncomputable def siE : TypeInfo := (Tryd.prog.info? 56).get (by kernel_rfl)
theorem siK (n : Nat) (h2 : 2 ≤ n) : Lib.swapperK n siE 10 = 6 := by
  have a : siE.hasPointers = false := by kernel_rfl
  have b : siE.bytes = 4 := by kernel_rfl
  have c : (n == 0) = false := by simp; omega
  have d : (n == 1) = false := by simp; omega
  simp [Lib.swapperK, a, b, c, d]
def ltN (x y : Nat) : Bool := decide (x < y)
theorem swoN : SWO ltN where
  irrefl x := by simp [ltN]
  trans x y z h1 h2 := by simp only [ltN, decide_eq_true_eq] at *; omega
  ntrans x y z h1 h2 := by simp only [ltN, decide_eq_false_iff_not] at *; omega
theorem holdsK {w : World} {g : Nat} {cur : Array Value} {e : TypeId} {ss : List Nat} (hb : w.heap[g]? = some (.cells cur e (0, 0))) (ht : cur.toList.take ss.length = ss.map encK) : Go.Sort.Holds encK w g 0 ss.toArray := by
  intro j hj
  have hj' : j < ss.length := by simpa using hj
  refine ⟨?_, by simp [World.frozen?, hb]⟩
  have h1 : (cur.toList.take ss.length)[j]? = (ss.map encK)[j]? := by rw [ht]
  rw [List.getElem?_take_of_lt hj'] at h1
  simp only [World.cell?, hb, Nat.zero_add]
  simp only [Option.isSome_none, Bool.false_eq_true, if_false]
  rw [← Array.getElem?_toList, h1]
  simp [hj']
theorem heapK {w : World} {g n : Nat} {os : Array Obj} {cur : Array Value} {e : TypeId} {fr : Nat × Nat} (d : Array Nat) (hb : w.heap[g]? = some (.cells cur e fr)) :
    (grow (putRow encK (Sort.ahead w n) g 0 d) os).heap[g]? = some (.cells (putCells encK 0 d cur) e fr) := by
  have hg : g < w.heap.size := (Array.getElem?_eq_some_iff.1 hb).1
  rw [heap_grow_old _ _ (by simpa using hg)]
  simp [putRow, mapBlock, Sort.ahead, Array.getElem?_modify, hb, onCells]
theorem grownK {w : World} {g n : Nat} {os : Array Obj} (d : Array Nat) : w.grownBy (grow (putRow encK (Sort.ahead w n) g 0 d) os) (some g) := by
  refine ⟨rfl, rfl, rfl, by simp, fun k hk hne => ?_⟩
  rw [heap_grow_old _ _ (by simpa using hk)]
  have : g ≠ k := fun e => hne (by rw [e])
  simp [putRow, mapBlock, Sort.ahead, Array.getElem?_modify, this]
theorem takeK (cur : Array Value) (ts : List Nat) (h : ts.length ≤ cur.size) : (putCells encK 0 ts.toArray cur).toList.take ts.length = ts.map encK := by
  apply List.ext_getElem?
  intro j
  by_cases hj : j < ts.length
  · rw [List.getElem?_take_of_lt hj, Array.getElem?_toList]
    simp [putCells, hj, show j < cur.size by omega]
  · rw [List.getElem?_take_eq_none (by omega), List.getElem?_eq_none (by simp; omega)]
set_option maxHeartbeats 2000000 in
/-- 'func(i, j int) bool { return ordered[i] < ordered[j] }'. -/
theorem tagLess (blk c Bs size : Nat) (W : World) (G : Nat → Nat) (hs : W.cell? ⟨Bs, 0, none⟩ = some (.slice (some ⟨blk, 0, none⟩) size c)) (hc : ∀ t, t < size → W.cell? ⟨blk, 0 + t, none⟩ = some (.int .u32 (G t : Nat))) (i j : Nat) (hi : i < size) (hj : j < size) :
    Calls Tryd.prog 121 #[.int .i64 i, .int .i64 j, .pointer (some ⟨Bs, 0, none⟩)] W fun e w' => e = .returned (.bool (ltN (G i) (G j))) ∧ ∃ q, w' = W.drewN q := by
  have ci := hc i hi
  have cj := hc j hj
  rw [Nat.zero_add] at ci cj
  go_enter Tryd.func121, Tryd.ntmps121
  go_wp2
  go_quiet (fail)
  go_wp2
  go_ret
  exact ⟨by simp [ltN], nq, rfl⟩
theorem short_sorted : ∀ ks : List Nat, ¬ 2 ≤ ks.length → ks.Pairwise (· ≤ ·)
  | [], _ => List.Pairwise.nil
  | [x], _ => by simp
  | x :: y :: r, h => absurd (by simp) h
set_option maxHeartbeats 2000000 in
theorem sortOK : SortSpec := by
  intro w z c p ks cur hz ht hp hl
  have hzl : z < w.heap.size := (Array.getElem?_eq_some_iff.1 hz).1
  have hH := holdsK hz ht
  have hlen : ks.length ≤ cur.size := by
    have := congrArg List.length ht
    simp at this
    omega
  have hzp : p ≠ z := by
    rintro rfl
    unfold Blk at hp
    rw [hz] at hp
    simp at hp
  by_cases h2 : 2 ≤ ks.length
  · have hless : LessReads Tryd.prog 121 #[.pointer (some ⟨p, 0, none⟩)] encK ltN z 0 ks.toArray.size w := by
      intro m os dk hs i j hi hj
      have hHg : Go.Sort.Holds encK (Sort.ahead w m) z 0 ks.toArray := holds_ahead _ _ _ _ _ _ hH
      refine tagLess z c p ks.toArray.size _ (fun t => dk[t]!) ?_ (fun t ht => ?_) i j hi hj
      · unfold sortWorld
        rw [cell?_grow _ _ _ (by simpa using hp.lt), cell?_putRow_other _ _ z 0 dk _ (Or.inl hzp)]
        have := hp.cell_some (i := 0) rfl
        exact this
      · unfold sortWorld
        rw [cell?_grow _ _ _ (by simpa using hzl)]
        exact cell?_putRow _ _ z 0 ks.toArray dk hHg hs t (by omega)
    have hS := Tryd.sort_Slice_sorted 117 56 siT siE (by kernel_rfl) (by kernel_rfl) (by kernel_rfl) (by kernel_rfl) 10 (fun _ => by kernel_rfl) (by kernel_rfl) (fun _ => by kernel_rfl) encK (fun _ => rfl) ltN swoN 121 _
      (enters_of Tryd.func121 (by kernel_rfl) rfl) z 0 c ks.toArray (by simpa using h2) (by simp; omega) 137 (by rw [siK _ (by simpa using h2)]; kernel_rfl) true
      (fun args W => run_callFunc_extern Tryd.func137 (by kernel_rfl) (by kernel_rfl) (by kernel_rfl) (e := Extern.ReflectliteSwapper.swap true) (by kernel_rfl) args W) w hless hH hzl
    have e0 : ks.toArray.size = ks.length := by simp
    rw [e0] at hS
    refine hS.mono ?_
    rintro e w' ⟨rfl, d', n, os, hpm, hso, rfl⟩
    have hpm' : PermIn 0 ks.toArray.size ks.toArray d' := by rw [e0]; exact hpm
    have hso' : SortedIn ltN 0 ks.toArray.size d' := by rw [e0]; exact hso
    obtain ⟨hsz, -, hperm⟩ := hpm'
    have e1 : d'.extract 0 ks.toArray.size = d' := by rw [← hsz]; exact Array.extract_size
    rw [e1, Array.extract_size] at hperm
    have hd : d'.toList.toArray = d' := by simp
    refine ⟨rfl, d'.toList, putCells encK 0 d' cur, hperm, ?_, heapK d' hz, ?_, grownK d'⟩
    · refine List.pairwise_iff_getElem.2 fun i j hi hj hij => ?_
      have h := hso' i j (Nat.zero_le _) hij (by rw [← hsz]; simpa using hj)
      simp only [ltN, decide_eq_false_iff_not] at h
      simp at hi hj
      rw [getElem!_pos d' i hi, getElem!_pos d' j hj] at h
      simp only [Array.getElem_toList]
      omega
    · have h := takeK cur d'.toList (by simp; omega)
      rw [hd] at h
      have e2 : d'.toList.length = ks.length := by simp; omega
      rw [e2] at h
      exact h
  · have hS : Calls Tryd.prog 120 #[.iface 117 (.slice (some ⟨z, 0, none⟩) ks.length c), .func (.func 121) #[] #[.pointer (some ⟨p, 0, none⟩)]] w fun e w' => e = .returned (.tuple #[]) ∧ ∃ os, w' = grow w os := by
      rcases Nat.eq_zero_or_pos ks.length with h | h
      · rw [h]
        exact Tryd.sort_Slice_tiny 117 56 siT siE (by kernel_rfl) (by kernel_rfl) (by kernel_rfl) (by kernel_rfl) 10 (fun _ => by kernel_rfl) (some ⟨z, 0, none⟩) 0 c (by omega) 132 (by rw [show Lib.swapperK 0 siE 10 = 1 by simp [Lib.swapperK]]; kernel_rfl) (.func 121) #[] #[.pointer (some ⟨p, 0, none⟩)] w
      · have h : ks.length = 1 := by omega
        rw [h]
        exact Tryd.sort_Slice_tiny 117 56 siT siE (by kernel_rfl) (by kernel_rfl) (by kernel_rfl) (by kernel_rfl) 10 (fun _ => by kernel_rfl) (some ⟨z, 0, none⟩) 1 c (by omega) 133 (by rw [show Lib.swapperK 1 siE 10 = 2 by simp [Lib.swapperK]]; kernel_rfl) (.func 121) #[] #[.pointer (some ⟨p, 0, none⟩)] w
    refine hS.mono ?_
    rintro e w' ⟨rfl, os, rfl⟩
    refine ⟨rfl, ks, cur, List.Perm.refl _, ?_, ?_, ht, ?_⟩
    · exact short_sorted ks h2
    · rw [heap_grow_old _ _ hzl]; exact hz
    · exact ⟨rfl, rfl, rfl, by simp, fun k hk _ => heap_grow_old _ _ hk⟩
end Go.Proofs.YtellhjpdpaeieaaDoor
