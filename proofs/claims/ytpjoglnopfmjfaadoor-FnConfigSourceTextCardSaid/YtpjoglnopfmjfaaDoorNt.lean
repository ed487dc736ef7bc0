/- What this package's own functions read octets as. -/
import Derived.Test.YtpjoglnopfmjfaaDoorNs
namespace Go.Proofs.YtpjoglnopfmjfaaDoor
open Go Go.RowKit

set_option maxRecDepth 100000 in
set_option maxHeartbeats 1600000 in
theorem ofTextKey (v : Value) (l : List UInt8) (w : World) (hs : l.length ≤ 1000000) (ha : Ascii l) (htab : Go.Lib.TabIs Tryd.prog w "strings.asciiSpace" .u8 Go.Lib.asciiSpaceTab) (hv : RL w.heap.size w v l) :
    Calls Tryd.prog 7 #[v] w fun e w' => (∃ n ok, e = .returned (.tuple #[.int .i64 n, .bool ok]) ∧ ((lookKey (normC l) = some n ∧ ok = true) ∨ (lookKey (normC l) = none ∧ ok = false))) ∧ Below w.heap.size w w' := by
  have hg : Tryd.prog.globalNamed "strings.asciiSpace" = some 0 := by kernel_rfl
  have hlim : 1000000 ≤ lim := by decide
  have hX := Blk.alloc_new w [.int .i16 0] 39
  have hb0 := (Below.refl w.heap.size w).alloc (Nat.le_refl _) (.cells #[.int .i16 0] 39)
  have H := Lib.hid (And.intro hs (And.intro ha (And.intro hg (And.intro htab (And.intro hv (And.intro hlim (And.intro hX hb0)))))))
  have hsz : (w.alloc (.cells #[.int .i16 0] 39)).heap.size = w.heap.size + 1 := by simp
  clear hs ha hg htab hv hlim hX hb0
  go_enter Tryd.func7, Tryd.ntmps7
  go_wp2_with (at_builtin; refine halted ?_)
  refine wpl_append_from bt rfl _ _ rfl (w.heap.size + 1) [] (Own.nil _ _) (Nat.le_of_eq hsz.symm) l (Src.ofRL Tryd.underlying26 (H.out.2.2.2.2.1.below H.out.2.2.2.2.2.2.2)) (by have := H.out.1; have := H.out.2.2.2.2.2.1; simp; omega) ?_
  intro v1 w1 hown hb1
  rw [List.nil_append] at hown
  have z1 := hb1.size
  have hX1 := H.out.2.2.2.2.2.2.1.below hb1 (by omega)
  have b01 : Below w.heap.size w w1 := H.out.2.2.2.2.2.2.2.trans (hb1.mono (by omega))
  have T := Go.Joins.tab_stays H.out.2.2.1 H.out.2.2.2.1 b01 (Nat.le_refl _)
  have Z := Lib.hid (And.intro (hown.rb [] (by simp)) (And.intro hX1 (And.intro b01 T)))
  have hbw : w.heap.size < w1.heap.size := by omega
  clear hown hb1 hX1 b01 T
  go_wp2_with fail
  refine (unmarshalKey w.heap.size _ _ l w1 H.out.1 H.out.2.1 Z.out.2.2.2 Z.out.1 Z.out.2.1 hbw).mono ?_
  rintro e w2 ⟨n, er, rfl, hd, hB2, hb2, z2⟩
  have q0 := hB2.cell_some (i := 0) rfl
  have B := Lib.hid (Z.out.2.2.1.trans hb2)
  clear hB2 hb2
  rcases hd with ⟨hn, rfl⟩ | ⟨hn, rfl, t, x, rfl⟩
  · have hr := lookKey_range hn
    have K := Lib.hid hn
    clear hn
    have hw : (n + 9223372036854775808) % 18446744073709551616 - 9223372036854775808 = n := by omega
    go_wp2
    go_ret2
    exact ⟨⟨_, _, rfl, .inl ⟨K.out, rfl⟩⟩, B.out⟩
  · have K := Lib.hid hn
    clear hn
    go_wp2
    go_ret2
    exact ⟨⟨_, _, rfl, .inr ⟨K.out, rfl⟩⟩, B.out⟩
end Go.Proofs.YtpjoglnopfmjfaaDoor
