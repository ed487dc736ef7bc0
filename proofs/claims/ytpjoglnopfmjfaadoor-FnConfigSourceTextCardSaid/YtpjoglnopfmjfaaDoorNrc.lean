/- What this package's own functions read a text as. -/
import Derived.Test.YtpjoglnopfmjfaaDoorNqc
namespace Go.Proofs.YtpjoglnopfmjfaaDoor
open Go Go.RowKit

theorem lookCfg_range {m : List UInt8} {n : Int} (h : lookCfg m = some n) : 0 ≤ n ∧ n ≤ 8 := by
  unfold lookCfg at h
  repeat' split at h
  all_goals first
    | (injection h with h; omega)
    | cases h
set_option maxRecDepth 100000 in
set_option maxHeartbeats 1600000 in
theorem implCfg (l : List UInt8) (w : World) (hs : l.length ≤ 1000000) (ha : Ascii l) (htab : Go.Lib.TabIs Tryd.prog w "strings.asciiSpace" .u8 Go.Lib.asciiSpaceTab) :
    Calls Tryd.prog 14 #[.string ⟨l.toArray⟩] w fun e w' => (∃ n ok, e = .returned (.tuple #[.int .i64 n, .bool ok]) ∧ ((lookCfg (normC l) = some n ∧ ok = true) ∨ (lookCfg (normC l) = none ∧ ok = false))) ∧ Below w.heap.size w w' := by
  have S := Lib.hid (parseCfg l w hs ha htab)
  clear hs ha htab
  go_enter Tryd.func14, Tryd.ntmps14
  go_wp2_with fail
  refine S.out.mono ?_
  rintro e w1 ⟨⟨n, er, rfl, hd⟩, hb⟩
  have B := Lib.hid hb
  clear hb S
  rcases hd with ⟨hn, rfl⟩ | ⟨hn, rfl, t, v, rfl⟩
  · have hr := lookCfg_range hn
    have K := Lib.hid hn
    clear hn
    have hw : (n + 9223372036854775808) % 18446744073709551616 - 9223372036854775808 = n := by omega
    go_wp2
    go_ret2
    exact ⟨⟨_, _, rfl, .inl ⟨K.out, rfl⟩⟩, B.out⟩
  · have K := Lib.hid hn
    clear hn
    go_wp2
    go_ret2
    exact ⟨⟨_, _, rfl, .inr ⟨K.out, rfl⟩⟩, B.out⟩
end Go.Proofs.YtpjoglnopfmjfaaDoor
