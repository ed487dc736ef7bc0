/- What the code reads a text as, of each kind. -/
import Derived.Test.YtpjoglnopfmjfaaDoorNt
namespace Go.Proofs.YtpjoglnopfmjfaaDoor
open Go Go.RowKit

def lookCfg (m : List UInt8) : Option Int := if m = [100, 121, 110, 97, 109, 105, 99, 116, 111, 112, 105, 99, 99, 111, 110, 102, 105, 103] then some 1 else if m = [100, 121, 110, 97, 109, 105, 99, 98, 114, 111, 107, 101, 114, 99, 111, 110, 102, 105, 103] then some 2 else if m = [100, 121, 110, 97, 109, 105, 99, 100, 101, 102, 97, 117, 108, 116, 98, 114, 111, 107, 101, 114, 99, 111, 110, 102, 105, 103] then some 3 else if m = [115, 116, 97, 116, 105, 99, 98, 114, 111, 107, 101, 114, 99, 111, 110, 102, 105, 103] then some 4 else if m = [100, 101, 102, 97, 117, 108, 116, 99, 111, 110, 102, 105, 103] then some 5 else if m = [100, 121, 110, 97, 109, 105, 99, 98, 114, 111, 107, 101, 114, 108, 111, 103, 103, 101, 114, 99, 111, 110, 102, 105, 103] then some 6 else if m = [99, 108, 105, 101, 110, 116, 109, 101, 116, 114, 105, 99, 115, 99, 111, 110, 102, 105, 103] then some 7 else if m = [103, 114, 111, 117, 112, 99, 111, 110, 102, 105, 103] then some 8 else none
set_option maxRecDepth 100000 in
set_option maxHeartbeats 1600000 in
theorem parseCfg (l : List UInt8) (w : World) (hs : l.length ≤ 1000000) (ha : Ascii l) (htab : Go.Lib.TabIs Tryd.prog w "strings.asciiSpace" .u8 Go.Lib.asciiSpaceTab) :
    Calls Tryd.prog 22 #[.string ⟨l.toArray⟩] w fun e w' => (∃ n er, e = .returned (.tuple #[.int .i8 n, er]) ∧ ((lookCfg (normC l) = some n ∧ er = .nilIface) ∨ (lookCfg (normC l) = none ∧ n = 0 ∧ ∃ t v, er = .iface t v))) ∧ Below w.heap.size w w' := by
  have S := strnorm l w hs ha htab
  clear hs ha htab
  generalize normC l = nl at S ⊢
  have SH := Lib.hid S
  clear S
  go_enter Tryd.func22, Tryd.ntmps22
  go_wp2_with fail
  refine SH.out.mono ?_
  rintro e w1 ⟨m, rfl, em, hb⟩
  have B := Lib.hid hb
  clear hb SH
  subst em
  by_cases h0 : m = [100, 121, 110, 97, 109, 105, 99, 116, 111, 112, 105, 99, 99, 111, 110, 102, 105, 103]
  · subst h0
    have L : lookCfg [100, 121, 110, 97, 109, 105, 99, 116, 111, 112, 105, 99, 99, 111, 110, 102, 105, 103] = some 1 := by decide
    have LH := Lib.hid L
    clear L
    go_wp2
    go_ret2
    exact ⟨⟨_, _, rfl, .inl ⟨LH.out, rfl⟩⟩, B.out⟩
  have q0 : (m == [100, 121, 110, 97, 109, 105, 99, 116, 111, 112, 105, 99, 99, 111, 110, 102, 105, 103]) = false := by simpa using h0
  by_cases h1 : m = [100, 121, 110, 97, 109, 105, 99, 98, 114, 111, 107, 101, 114, 99, 111, 110, 102, 105, 103]
  · subst h1
    have L : lookCfg [100, 121, 110, 97, 109, 105, 99, 98, 114, 111, 107, 101, 114, 99, 111, 110, 102, 105, 103] = some 2 := by decide
    have LH := Lib.hid L
    clear L h0
    go_wp2
    go_ret2
    exact ⟨⟨_, _, rfl, .inl ⟨LH.out, rfl⟩⟩, B.out⟩
  have q1 : (m == [100, 121, 110, 97, 109, 105, 99, 98, 114, 111, 107, 101, 114, 99, 111, 110, 102, 105, 103]) = false := by simpa using h1
  by_cases h2 : m = [100, 121, 110, 97, 109, 105, 99, 100, 101, 102, 97, 117, 108, 116, 98, 114, 111, 107, 101, 114, 99, 111, 110, 102, 105, 103]
  · subst h2
    have L : lookCfg [100, 121, 110, 97, 109, 105, 99, 100, 101, 102, 97, 117, 108, 116, 98, 114, 111, 107, 101, 114, 99, 111, 110, 102, 105, 103] = some 3 := by decide
    have LH := Lib.hid L
    clear L h0 h1
    go_wp2
    go_ret2
    exact ⟨⟨_, _, rfl, .inl ⟨LH.out, rfl⟩⟩, B.out⟩
  have q2 : (m == [100, 121, 110, 97, 109, 105, 99, 100, 101, 102, 97, 117, 108, 116, 98, 114, 111, 107, 101, 114, 99, 111, 110, 102, 105, 103]) = false := by simpa using h2
  by_cases h3 : m = [115, 116, 97, 116, 105, 99, 98, 114, 111, 107, 101, 114, 99, 111, 110, 102, 105, 103]
  · subst h3
    have L : lookCfg [115, 116, 97, 116, 105, 99, 98, 114, 111, 107, 101, 114, 99, 111, 110, 102, 105, 103] = some 4 := by decide
    have LH := Lib.hid L
    clear L h0 h1 h2
    go_wp2
    go_ret2
    exact ⟨⟨_, _, rfl, .inl ⟨LH.out, rfl⟩⟩, B.out⟩
  have q3 : (m == [115, 116, 97, 116, 105, 99, 98, 114, 111, 107, 101, 114, 99, 111, 110, 102, 105, 103]) = false := by simpa using h3
  by_cases h4 : m = [100, 101, 102, 97, 117, 108, 116, 99, 111, 110, 102, 105, 103]
  · subst h4
    have L : lookCfg [100, 101, 102, 97, 117, 108, 116, 99, 111, 110, 102, 105, 103] = some 5 := by decide
    have LH := Lib.hid L
    clear L h0 h1 h2 h3
    go_wp2
    go_ret2
    exact ⟨⟨_, _, rfl, .inl ⟨LH.out, rfl⟩⟩, B.out⟩
  have q4 : (m == [100, 101, 102, 97, 117, 108, 116, 99, 111, 110, 102, 105, 103]) = false := by simpa using h4
  by_cases h5 : m = [100, 121, 110, 97, 109, 105, 99, 98, 114, 111, 107, 101, 114, 108, 111, 103, 103, 101, 114, 99, 111, 110, 102, 105, 103]
  · subst h5
    have L : lookCfg [100, 121, 110, 97, 109, 105, 99, 98, 114, 111, 107, 101, 114, 108, 111, 103, 103, 101, 114, 99, 111, 110, 102, 105, 103] = some 6 := by decide
    have LH := Lib.hid L
    clear L h0 h1 h2 h3 h4
    go_wp2
    go_ret2
    exact ⟨⟨_, _, rfl, .inl ⟨LH.out, rfl⟩⟩, B.out⟩
  have q5 : (m == [100, 121, 110, 97, 109, 105, 99, 98, 114, 111, 107, 101, 114, 108, 111, 103, 103, 101, 114, 99, 111, 110, 102, 105, 103]) = false := by simpa using h5
  by_cases h6 : m = [99, 108, 105, 101, 110, 116, 109, 101, 116, 114, 105, 99, 115, 99, 111, 110, 102, 105, 103]
  · subst h6
    have L : lookCfg [99, 108, 105, 101, 110, 116, 109, 101, 116, 114, 105, 99, 115, 99, 111, 110, 102, 105, 103] = some 7 := by decide
    have LH := Lib.hid L
    clear L h0 h1 h2 h3 h4 h5
    go_wp2
    go_ret2
    exact ⟨⟨_, _, rfl, .inl ⟨LH.out, rfl⟩⟩, B.out⟩
  have q6 : (m == [99, 108, 105, 101, 110, 116, 109, 101, 116, 114, 105, 99, 115, 99, 111, 110, 102, 105, 103]) = false := by simpa using h6
  by_cases h7 : m = [103, 114, 111, 117, 112, 99, 111, 110, 102, 105, 103]
  · subst h7
    have L : lookCfg [103, 114, 111, 117, 112, 99, 111, 110, 102, 105, 103] = some 8 := by decide
    have LH := Lib.hid L
    clear L h0 h1 h2 h3 h4 h5 h6
    go_wp2
    go_ret2
    exact ⟨⟨_, _, rfl, .inl ⟨LH.out, rfl⟩⟩, B.out⟩
  have q7 : (m == [103, 114, 111, 117, 112, 99, 111, 110, 102, 105, 103]) = false := by simpa using h7
  have LH := Lib.hid (show lookCfg m = none by simp [lookCfg, h0, h1, h2, h3, h4, h5, h6, h7])
  clear h0 h1 h2 h3 h4 h5 h6 h7
  go_wp2_with fail
  refine (errNew _ _).mono ?_
  rintro e w2 ⟨t, v, rfl, hb2⟩
  have B2 := Lib.hid (B.out.trans (hb2.mono B.out.size))
  clear hb2
  go_wp2
  go_ret2
  exact ⟨⟨_, _, rfl, .inr ⟨LH.out, rfl, _, _, rfl⟩⟩, B2.out⟩
end Go.Proofs.YtpjoglnopfmjfaaDoor
