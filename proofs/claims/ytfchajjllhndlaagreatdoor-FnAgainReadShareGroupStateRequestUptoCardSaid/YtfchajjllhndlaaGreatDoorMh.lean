/- Shared texts of these proofs, laid together by merge.py: Ag. -/
import Derived.Test.YtfchajjllhndlaaGreatDoorMg
set_option linter.unusedVariables false
/- What againgen.py's texts lean on. -/
namespace Go.Proofs.YtfchajjllhndlaaGreatDoor
open Go Go.RowKit

theorem RepU.upB {B B' : Nat} {w : World} {u : List (Nat × List UInt8)} {v : Value} (h : RepU B w u v) (hB : B ≤ B') : RepU B' w u v := by
  obtain ⟨a, cap, hv, h1, h2, hr⟩ := h
  refine ⟨a, cap, hv, h1, h2, fun hn => ?_⟩
  obtain ⟨p, q, ha, hp, hc⟩ := hr hn
  refine ⟨p, q, ha, by omega, fun i kv hi => ?_⟩
  obtain ⟨c0, hk, x, c1, hx⟩ := hc i kv hi
  exact ⟨c0, hk, x, c1, hx.mono hB⟩
theorem RepT.upB {B B' : Nat} {w : World} (hB : B ≤ B') {c : List Value} {t : Tree} (h : RepT B w c t) : RepT B' w c t := by
  induction h with
  | mk n s null l u sv uv a cap f hn hs hu hcap hl hf ih =>
    refine .mk n s null l u sv uv a cap f hn (hs.mono hB) (hu.upB hB) hcap (fun hne => ?_) ih
    obtain ⟨p, q, ha, hp, h⟩ := hl hne
    exact ⟨p, q, ha, by omega, h⟩
theorem RB.cut {O : List Nat} {w : World} {a : Option Addr} {n cap k : Nat} {bs : List UInt8} (h : RB O w (.slice a n cap) bs) (hk : k ≤ bs.length) : RB O w (.slice a k cap) (bs.take k) := by
  obtain ⟨a', cap', hv, h1, h2, h3⟩ := h
  cases hv
  have hl : (bs.take k).length = k := by rw [List.length_take]; omega
  refine ⟨a, cap, by rw [hl], by omega, h2, fun hne => ?_⟩
  obtain ⟨b, o, ha, hb, hc⟩ := h3 (by intro e; subst e; simp at hne)
  refine ⟨b, o, ha, hb, fun i u hi => hc i u ?_⟩
  rw [List.getElem?_take] at hi
  split at hi
  · exact hi
  · cases hi
theorem RB.drew {O : List Nat} {w : World} {v : Value} {bs : List UInt8} (h : RB O w v bs) : RB O w.drew v bs := h
end Go.Proofs.YtfchajjllhndlaaGreatDoor
