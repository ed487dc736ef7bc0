/- What the code reads octets as: unmarshalled, through a pointer. -/
import Derived.Test.YtpjoglnopfmjfaaDoorNr
namespace Go.Proofs.YtpjoglnopfmjfaaDoor
open Go Go.RowKit

set_option maxRecDepth 100000 in
set_option maxHeartbeats 1600000 in
theorem unmarshalKey (b : Nat) (o : Value) (v : Value) (l : List UInt8) (w : World) (hs : l.length ≤ 1000000) (ha : Ascii l) (htab : Go.Lib.TabIs Tryd.prog w "strings.asciiSpace" .u8 Go.Lib.asciiSpaceTab)
    (hv : RB [] w v l) (hb : Blk w b [o] 39) (hbw : b < w.heap.size) :
    Calls Tryd.prog 18 #[.pointer (some ⟨b, 0, none⟩), v] w fun e w' => ∃ n er, e = .returned er ∧ ((lookKey (normC l) = some n ∧ er = .nilIface) ∨ (lookKey (normC l) = none ∧ n = 0 ∧ ∃ t x, er = .iface t x)) ∧ Blk w' b [.int .i16 n] 39 ∧ Below b w w' ∧ w.heap.size ≤ w'.heap.size := by
  have S := Lib.hid (parseKey l w hs ha htab)
  have hcv := run_conv hv
  obtain ⟨va, vc, rfl, -⟩ := id hv
  have HB := Lib.hid hb
  clear hs ha htab hv hb
  go_enter Tryd.func18, Tryd.ntmps18
  go_wp2_with fail
  refine S.out.mono ?_
  rintro e w1 ⟨⟨n, er, rfl, hd⟩, hbl⟩
  have hB1 := HB.out.below hbl hbw
  have q0 := hB1.cell_some (i := 0) rfl
  have f0 := hB1.frozen 0
  have Z := Lib.hid (And.intro hB1 hbl)
  clear hB1 hbl S hcv
  rcases hd with ⟨hn, rfl⟩ | ⟨hn, rfl, t, x, rfl⟩
  · have K := Lib.hid hn
    clear hn
    go_wp2
    go_ret
    exact ⟨n, _, rfl, .inl ⟨K.out, rfl⟩, Z.out.1.set 0 _, (Z.out.2.mono (Nat.le_of_lt hbw)).setCell (Nat.le_refl _) _, by have := Z.out.2.size; simpa using this⟩
  · have K := Lib.hid hn
    clear hn
    go_wp2
    go_ret
    exact ⟨0, _, rfl, .inr ⟨K.out, rfl, _, _, rfl⟩, Z.out.1.set 0 _, (Z.out.2.mono (Nat.le_of_lt hbw)).setCell (Nat.le_refl _) _, by have := Z.out.2.size; simpa using this⟩
end Go.Proofs.YtpjoglnopfmjfaaDoor
