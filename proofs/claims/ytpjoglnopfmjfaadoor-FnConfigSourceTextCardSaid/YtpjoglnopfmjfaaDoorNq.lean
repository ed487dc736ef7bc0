/- What the code reads a text as, of each kind. -/
import Derived.Test.YtpjoglnopfmjfaaDoorNn
namespace Go.Proofs.YtpjoglnopfmjfaaDoor
open Go Go.RowKit

set_option maxRecDepth 100000 in
theorem errNew (s : ByteArray) (w : World) : Calls Tryd.prog 26 #[.string s] w fun e w' => ∃ t v, e = .returned (.iface t v) ∧ Below w.heap.size w w' := by
  have hb := fun o => Lib.hid ((Below.refl w.heap.size w).alloc (Nat.le_refl _) o)
  go_enter Tryd.func26, Tryd.ntmps26
  go_wp2
  go_ret
  exact ⟨_, _, rfl, (hb _).out⟩
def lookKey (m : List UInt8) : Option Int := if m = [97, 98, 111, 114, 116] then some 0 else if m = [99, 111, 109, 109, 105, 116] then some 1 else if m = [113, 117, 111, 114, 117, 109, 114, 101, 97, 115, 115, 105, 103, 110, 109, 101, 110, 116] then some 2 else if m = [115, 110, 97, 112, 115, 104, 111, 116, 104, 101, 97, 100, 101, 114] then some 3 else if m = [115, 110, 97, 112, 115, 104, 111, 116, 102, 111, 111, 116, 101, 114] then some 4 else if m = [107, 114, 97, 102, 116, 118, 101, 114, 115, 105, 111, 110] then some 5 else if m = [107, 114, 97, 102, 116, 118, 111, 116, 101, 114, 115] then some 6 else none
set_option maxRecDepth 100000 in
set_option maxHeartbeats 1600000 in
theorem parseKey (l : List UInt8) (w : World) (hs : l.length ≤ 1000000) (ha : Ascii l) (htab : Go.Lib.TabIs Tryd.prog w "strings.asciiSpace" .u8 Go.Lib.asciiSpaceTab) :
    Calls Tryd.prog 17 #[.string ⟨l.toArray⟩] w fun e w' => (∃ n er, e = .returned (.tuple #[.int .i16 n, er]) ∧ ((lookKey (normC l) = some n ∧ er = .nilIface) ∨ (lookKey (normC l) = none ∧ n = 0 ∧ ∃ t v, er = .iface t v))) ∧ Below w.heap.size w w' := by
  have S := strnorm l w hs ha htab
  clear hs ha htab
  generalize normC l = nl at S ⊢
  have SH := Lib.hid S
  clear S
  go_enter Tryd.func17, Tryd.ntmps17
  go_wp2_with fail
  refine SH.out.mono ?_
  rintro e w1 ⟨m, rfl, em, hb⟩
  have B := Lib.hid hb
  clear hb SH
  subst em
  by_cases h0 : m = [97, 98, 111, 114, 116]
  · subst h0
    have L : lookKey [97, 98, 111, 114, 116] = some 0 := by decide
    have LH := Lib.hid L
    clear L
    go_wp2
    go_ret2
    exact ⟨⟨_, _, rfl, .inl ⟨LH.out, rfl⟩⟩, B.out⟩
  have q0 : (m == [97, 98, 111, 114, 116]) = false := by simpa using h0
  by_cases h1 : m = [99, 111, 109, 109, 105, 116]
  · subst h1
    have L : lookKey [99, 111, 109, 109, 105, 116] = some 1 := by decide
    have LH := Lib.hid L
    clear L h0
    go_wp2
    go_ret2
    exact ⟨⟨_, _, rfl, .inl ⟨LH.out, rfl⟩⟩, B.out⟩
  have q1 : (m == [99, 111, 109, 109, 105, 116]) = false := by simpa using h1
  by_cases h2 : m = [113, 117, 111, 114, 117, 109, 114, 101, 97, 115, 115, 105, 103, 110, 109, 101, 110, 116]
  · subst h2
    have L : lookKey [113, 117, 111, 114, 117, 109, 114, 101, 97, 115, 115, 105, 103, 110, 109, 101, 110, 116] = some 2 := by decide
    have LH := Lib.hid L
    clear L h0 h1
    go_wp2
    go_ret2
    exact ⟨⟨_, _, rfl, .inl ⟨LH.out, rfl⟩⟩, B.out⟩
  have q2 : (m == [113, 117, 111, 114, 117, 109, 114, 101, 97, 115, 115, 105, 103, 110, 109, 101, 110, 116]) = false := by simpa using h2
  by_cases h3 : m = [115, 110, 97, 112, 115, 104, 111, 116, 104, 101, 97, 100, 101, 114]
  · subst h3
    have L : lookKey [115, 110, 97, 112, 115, 104, 111, 116, 104, 101, 97, 100, 101, 114] = some 3 := by decide
    have LH := Lib.hid L
    clear L h0 h1 h2
    go_wp2
    go_ret2
    exact ⟨⟨_, _, rfl, .inl ⟨LH.out, rfl⟩⟩, B.out⟩
  have q3 : (m == [115, 110, 97, 112, 115, 104, 111, 116, 104, 101, 97, 100, 101, 114]) = false := by simpa using h3
  by_cases h4 : m = [115, 110, 97, 112, 115, 104, 111, 116, 102, 111, 111, 116, 101, 114]
  · subst h4
    have L : lookKey [115, 110, 97, 112, 115, 104, 111, 116, 102, 111, 111, 116, 101, 114] = some 4 := by decide
    have LH := Lib.hid L
    clear L h0 h1 h2 h3
    go_wp2
    go_ret2
    exact ⟨⟨_, _, rfl, .inl ⟨LH.out, rfl⟩⟩, B.out⟩
  have q4 : (m == [115, 110, 97, 112, 115, 104, 111, 116, 102, 111, 111, 116, 101, 114]) = false := by simpa using h4
  by_cases h5 : m = [107, 114, 97, 102, 116, 118, 101, 114, 115, 105, 111, 110]
  · subst h5
    have L : lookKey [107, 114, 97, 102, 116, 118, 101, 114, 115, 105, 111, 110] = some 5 := by decide
    have LH := Lib.hid L
    clear L h0 h1 h2 h3 h4
    go_wp2
    go_ret2
    exact ⟨⟨_, _, rfl, .inl ⟨LH.out, rfl⟩⟩, B.out⟩
  have q5 : (m == [107, 114, 97, 102, 116, 118, 101, 114, 115, 105, 111, 110]) = false := by simpa using h5
  by_cases h6 : m = [107, 114, 97, 102, 116, 118, 111, 116, 101, 114, 115]
  · subst h6
    have L : lookKey [107, 114, 97, 102, 116, 118, 111, 116, 101, 114, 115] = some 6 := by decide
    have LH := Lib.hid L
    clear L h0 h1 h2 h3 h4 h5
    go_wp2
    go_ret2
    exact ⟨⟨_, _, rfl, .inl ⟨LH.out, rfl⟩⟩, B.out⟩
  have q6 : (m == [107, 114, 97, 102, 116, 118, 111, 116, 101, 114, 115]) = false := by simpa using h6
  have LH := Lib.hid (show lookKey m = none by simp [lookKey, h0, h1, h2, h3, h4, h5, h6])
  clear h0 h1 h2 h3 h4 h5 h6
  go_wp2_with fail
  refine (errNew _ _).mono ?_
  rintro e w2 ⟨t, v, rfl, hb2⟩
  have B2 := Lib.hid (B.out.trans (hb2.mono B.out.size))
  clear hb2
  go_wp2
  go_ret2
  exact ⟨⟨_, _, rfl, .inr ⟨LH.out, rfl, _, _, rfl⟩⟩, B2.out⟩
end Go.Proofs.YtpjoglnopfmjfaaDoor
