/- The law's own helpers; what is read and written again. -/
import Derived.Test.YtellhjpdpaeieaaDoorRtop
namespace Go.Proofs.YtellhjpdpaeieaaDoor
open Go Go.RowKit
set_option linter.unusedVariables false

/-- What is read of any octets is written as octets that are read again, and written as the same. -/
theorem anyLaw {ver : Int} {flex : Bool} {s : Sch} {bs r : List UInt8} {v : GV} (hok : okS ver flex s = true) (hb : bs.length ≤ 1000) (h : rd ver flex s bs = some (v, r)) :
    (ap ver flex s v).length ≤ 1000 ∧ ∃ v', rd ver flex s (ap ver flex s v) = some (v', []) ∧ ap ver flex s v' = ap ver flex s v := by
  obtain ⟨h1, h2⟩ := rd_out ver flex s hok (by unfold M; omega) h
  obtain ⟨v', -, h4, h5⟩ := rd_ap ver flex s v hok h1
  refine ⟨by omega, v', ?_, h4⟩
  have := h5 []
  rwa [List.append_nil] at this
theorem Own.rl' {base : Nat} {w : World} {v : Value} {bs : List UInt8} (h : Own base w v bs) : RL w.heap.size w v bs := (h.rb [] (by simp)).rl
/-- What Again answers. -/
def AgainPost (ver : Int) (flex : Bool) (s : Sch) (bs : List UInt8) (w : World) (e : Ending) (w' : World) : Prop :=
  Below w.heap.size w w' ∧ (rd ver flex s bs = none → e = .returned (.tuple #[.slice none 0 0, .bool false])) ∧ ∀ v r, rd ver flex s bs = some (v, r) → ∃ x, e = .returned (.tuple #[x, .bool true]) ∧ Own w.heap.size w' x (ap ver flex s v)
set_option maxRecDepth 100000 in
set_option maxHeartbeats 1600000 in
theorem sameOK (bs : List UInt8) (x y : Value) (B base : Nat) (w : World) (hb : base ≤ w.heap.size) (hx : RL B w x bs) (hy : RL B w y bs) (hBw : B ≤ base) : Calls Tryd.prog 12 #[x, y] w fun e w' => e = .returned (.bool true) ∧ Below base w w' := by
  obtain ⟨a, cap, rfl, h1, h2, h3⟩ := hx
  obtain ⟨a', cap', rfl, h1', h2', h3'⟩ := hy
  by_cases hne : bs = []
  · subst hne
    clear h3 h3'
    go_enter Tryd.func12, Tryd.ntmps12
    go_wp2_with fail
    refine wp_loop_rounds 1 ?_
    rw [rounds_succ]
    go_wp2
    go_ret
    exact ⟨rfl, Below.refl _ _⟩
  obtain ⟨p, q, rfl, hp, hc⟩ := h3 hne
  obtain ⟨p', q', rfl, hp', hc'⟩ := h3' hne
  have H := Lib.hid (And.intro hc hc')
  clear hc hc' h3 h3' hne
  obtain ⟨n, hn⟩ : ∃ n, bs.length = n := ⟨_, rfl⟩
  rw [hn] at h1 h1' ⊢
  go_enter Tryd.func12, Tryd.ntmps12
  go_wp2_with fail
  go_loopw [13] (fun i wr => ∃ k : Nat, k ≤ n ∧ i = .int .i64 k ∧ Below base w wr) (fun i _ => n - numOf i)
  case atStart => exact ⟨0, Nat.zero_le _, rfl, Below.refl _ _⟩
  case round =>
    obtain ⟨k, hk, rfl, hbk⟩ := hrel
    by_cases hkn : k < n
    · obtain ⟨u, hu⟩ : ∃ u, bs[k]? = some u := ⟨bs[k], List.getElem?_eq_getElem (by omega)⟩
      have c1 := (hbk.cell (p := ⟨p, q + k, none⟩) (by show p < base; omega)).trans (H.out.1 k u hu)
      have c2 := (hbk.cell (p := ⟨p', q' + k, none⟩) (by show p' < base; omega)).trans (H.out.2 k u hu)
      have FIN := Lib.hid hbk.drew
      clear hbk hu
      unfold byteV at c1 c2
      generalize (u.toNat : Int) = z at *
      go_wp2_with fail
      go_region_held3 (fun w' => w'.cell? ⟨p, q + k, none⟩ = some (.int .u8 z) ∧ w'.cell? ⟨p', q' + k, none⟩ = some (.int .u8 z)) (first | exact ⟨c1, c2⟩) (first | fail)
      go_wp2
      go_roundw
      case rel => exact ⟨k + 1, by omega, by go_num, FIN.out⟩
      case measure => simp [numOf]; omega
    · have : k = n := by omega
      subst this
      go_wp2
      go_ret
      exact ⟨rfl, hbk⟩

set_option maxHeartbeats 400000 in
theorem versionOK (n most : Int) (h0 : 0 ≤ n) (h1 : n ≤ 255) (h2 : 0 ≤ most) (h3 : most ≤ 255) (w : World) : Calls Tryd.prog 11 #[.int .u8 n, .int .i64 most] w fun e w' => e = .returned (.int .i64 (n % (most + 1))) ∧ w = w' := by
  go_enter Tryd.func11, Tryd.ntmps11
  go_wp2
  go_ret
  exact ⟨rfl, rfl⟩
end Go.Proofs.YtellhjpdpaeieaaDoor
