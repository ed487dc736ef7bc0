/- FnMakeOld: whatever the octets, the message and the switch, the law answers true. No condition. -/
import Derived.Test.YtfchajjllhndlaaRows
import Derived.Test.YtfchajjllhndlaaMn
import Derived.Test.YtfchajjllhndlaaCd
import Derived.WalkKit
import Derived.ProofKit
import Derived.OpenShut
import Derived.Carry
namespace Go.Proofs.Ytfchajjllhndlaa.fnMakeOld
open Go.ChangeShapes Go.WideShapes Go.ChangeAt Go.RowKit

theorem own : ownKnob Try.prog.godebug = none := by kernel_rfl
theorem laidOut : laidOutB Try.prog = true := by kernel_rfl
theorem cellsU8 : Try.prog.cellsOf 5 = 1 := by kernel_rfl
theorem cellsI8 : Try.prog.cellsOf 30 = 1 := by kernel_rfl
theorem cellsI32 : Try.prog.cellsOf 21 = 1 := by kernel_rfl
theorem cellsI64 : Try.prog.cellsOf 2 = 1 := by kernel_rfl
theorem cellsBo : Try.prog.cellsOf 4 = 1 := by kernel_rfl
theorem cellsSl : Try.prog.cellsOf 29 = 1 := by kernel_rfl
theorem cellsOct : Try.prog.cellsOf 32 = 2 := by kernel_rfl
theorem cellsOld : Try.prog.cellsOf 34 = 10 := by kernel_rfl
theorem list2 {α : Type} {l : List α} (h : l.length = 2) : ∃ a b, l = [a, b] := by
  match l, h with
  | [a, b], _ => exact ⟨a, b, rfl⟩
theorem list8 {α : Type} {l : List α} (h : l.length = 8) : ∃ a b c d e f g i, l = [a, b, c, d, e, f, g, i] := by
  match l, h with
  | [a, b, c, d, e, f, g, i], _ => exact ⟨a, b, c, d, e, f, g, i, rfl⟩
theorem list10 {α : Type} {l : List α} (h : l.length = 10) : ∃ a b c d e f g i j k, l = [a, b, c, d, e, f, g, i, j, k] := by
  match l, h with
  | [a, b, c, d, e, f, g, i, j, k], _ => exact ⟨a, b, c, d, e, f, g, i, j, k, rfl⟩

section
variable {H : Type} {enc : TypeId × Value → H} {W : World} {held : Bool}
theorem rl_open {n : Nat} {cs : List Value} {x : DataW H × List MemPlace} (h : DataW.trod enc Try.prog W 0 (fun _ => true) held n 29 cs = some x) : ∃ a bs cap, cs = [.slice a (bs : List UInt8).length cap] ∧ RL W.heap.size W (.slice a bs.length cap) bs := by
  rcases open_ints Try.underlying29 Try.underlying5 cellsU8 h with ⟨rfl, -⟩ | ⟨a, len, cap, zs, rfl, _, hl, hm, hz, hx, hcell, hwz⟩
  · exact ⟨none, [], 0, rfl, none, 0, rfl, Nat.le_refl _, by decide, fun h => absurd rfl h⟩
  · simp only [if_true] at hz
    obtain ⟨bs, hbl, hb⟩ := rb_of_ints hl hm (by omega) hcell hwz
    subst hbl
    exact ⟨_, bs, _, rfl, hb.rl⟩
theorem oct_open {n : Nat} {cs : List Value} {x : DataW H × List MemPlace} (h : DataW.trod enc Try.prog W 0 (fun _ => true) held n 32 cs = some x) :
    ∃ (b : Bool) (a : Option Addr) (bs : List UInt8) (cap : Nat), cs = [.bool b, .slice a bs.length cap] ∧ RL W.heap.size W (.slice a bs.length cap) bs := by
  obtain ⟨xs, m, -, hxe, hl, hlen, hf⟩ := DataW.trod_struct Try.underlying32 h
  rw [cellsOct] at hl
  obtain ⟨y0, y1, rfl⟩ := list2 (show xs.length = 2 from hlen)
  obtain ⟨c0, c1, rfl⟩ := list2 hl
  have h0 : DataW.trod enc Try.prog W 0 (fun _ => true) held m 4 (List.take (Try.prog.cellsOf 4) (List.drop 0 [c0, c1])) = some y0 := hf 0 _ rfl
  have h1 : DataW.trod enc Try.prog W 0 (fun _ => true) held m 29 (List.take (Try.prog.cellsOf 29) (List.drop 1 [c0, c1])) = some y1 := hf 1 _ rfl
  rw [cellsBo] at h0
  rw [cellsSl] at h1
  obtain ⟨b, e0, -⟩ := DataW.trod_bool Try.underlying4 h0
  obtain ⟨a, bs, cap, e1, hr⟩ := rl_open h1
  obtain rfl : c0 = .bool b := by simpa using e0
  obtain rfl : c1 = .slice a bs.length cap := by simpa using e1
  exact ⟨b, a, bs, cap, rfl, hr⟩
theorem int_of {n : Nat} {t : TypeId} {k : IntKind} {cs : List Value} {x : DataW H × List MemPlace} (ht : Try.prog.underlying t = some (.int k)) (h : DataW.trod enc Try.prog W 0 (fun _ => true) held n t cs = some x) : ∃ z, cs = [.int k z] ∧ (Lit.int k z).wf = true := by
  obtain ⟨z, e, -, hw⟩ := DataW.trod_int ht h
  exact ⟨z, e, hw⟩
theorem old_open {n : Nat} {cs : List Value} {x : DataW H × List MemPlace} (h : DataW.trod enc Try.prog W 0 (fun _ => true) held n 34 cs = some x) :
    ∃ (off sz crc mg att tm : Int) (kn vn : Bool) (ka va : Option Addr) (kc vc : Nat) (kb vb : List UInt8),
      cs = [.int .i64 off, .int .i32 sz, .int .i32 crc, .int .i8 mg, .int .i8 att, .int .i64 tm, .bool kn, .slice ka kb.length kc, .bool vn, .slice va vb.length vc] ∧
      (-2147483648 ≤ sz ∧ sz ≤ 2147483647) ∧ (-2147483648 ≤ crc ∧ crc ≤ 2147483647) ∧ (-128 ≤ mg ∧ mg ≤ 127) ∧ (-128 ≤ att ∧ att ≤ 127) ∧
      RL W.heap.size W (.slice ka kb.length kc) kb ∧ RL W.heap.size W (.slice va vb.length vc) vb := by
  obtain ⟨xs, m, -, hxe, hl, hlen, hf⟩ := DataW.trod_struct Try.underlying34 h
  rw [cellsOld] at hl
  obtain ⟨y0, y1, y2, y3, y4, y5, y6, y7, rfl⟩ := list8 (show xs.length = 8 from hlen)
  obtain ⟨c0, c1, c2, c3, c4, c5, c6, c7, c8, c9, rfl⟩ := list10 hl
  have h0 : DataW.trod enc Try.prog W 0 (fun _ => true) held m 2 (List.take (Try.prog.cellsOf 2) (List.drop 0 [c0, c1, c2, c3, c4, c5, c6, c7, c8, c9])) = some y0 := hf 0 _ rfl
  have h1 : DataW.trod enc Try.prog W 0 (fun _ => true) held m 21 (List.take (Try.prog.cellsOf 21) (List.drop 1 [c0, c1, c2, c3, c4, c5, c6, c7, c8, c9])) = some y1 := hf 1 _ rfl
  have h2 : DataW.trod enc Try.prog W 0 (fun _ => true) held m 21 (List.take (Try.prog.cellsOf 21) (List.drop 2 [c0, c1, c2, c3, c4, c5, c6, c7, c8, c9])) = some y2 := hf 2 _ rfl
  have h3 : DataW.trod enc Try.prog W 0 (fun _ => true) held m 30 (List.take (Try.prog.cellsOf 30) (List.drop 3 [c0, c1, c2, c3, c4, c5, c6, c7, c8, c9])) = some y3 := hf 3 _ rfl
  have h4 : DataW.trod enc Try.prog W 0 (fun _ => true) held m 30 (List.take (Try.prog.cellsOf 30) (List.drop 4 [c0, c1, c2, c3, c4, c5, c6, c7, c8, c9])) = some y4 := hf 4 _ rfl
  have h5 : DataW.trod enc Try.prog W 0 (fun _ => true) held m 2 (List.take (Try.prog.cellsOf 2) (List.drop 5 [c0, c1, c2, c3, c4, c5, c6, c7, c8, c9])) = some y5 := hf 5 _ rfl
  have h6 : DataW.trod enc Try.prog W 0 (fun _ => true) held m 32 (List.take (Try.prog.cellsOf 32) (List.drop 6 [c0, c1, c2, c3, c4, c5, c6, c7, c8, c9])) = some y6 := hf 6 _ rfl
  have h7 : DataW.trod enc Try.prog W 0 (fun _ => true) held m 32 (List.take (Try.prog.cellsOf 32) (List.drop 8 [c0, c1, c2, c3, c4, c5, c6, c7, c8, c9])) = some y7 := hf 7 _ rfl
  clear hf hxe hlen hl h
  rw [cellsI64] at h0 h5
  rw [cellsI32] at h1 h2
  rw [cellsI8] at h3 h4
  rw [cellsOct] at h6 h7
  obtain ⟨off, e0, -⟩ := int_of Try.underlying2 h0
  obtain ⟨sz, e1, w1⟩ := int_of Try.underlying21 h1
  obtain ⟨crc, e2, w2⟩ := int_of Try.underlying21 h2
  obtain ⟨mg, e3, w3⟩ := int_of Try.underlying30 h3
  obtain ⟨att, e4, w4⟩ := int_of Try.underlying30 h4
  obtain ⟨tm, e5, -⟩ := int_of Try.underlying2 h5
  obtain ⟨kn, ka, kb, kc, e6, hk⟩ := oct_open h6
  obtain ⟨vn, va, vb, vc, e7, hv⟩ := oct_open h7
  have e0' : [c0] = [.int .i64 off] := e0
  have e1' : [c1] = [.int .i32 sz] := e1
  have e2' : [c2] = [.int .i32 crc] := e2
  have e3' : [c3] = [.int .i8 mg] := e3
  have e4' : [c4] = [.int .i8 att] := e4
  have e5' : [c5] = [.int .i64 tm] := e5
  have e6' : [c6, c7] = [.bool kn, .slice ka kb.length kc] := e6
  have e7' : [c8, c9] = [.bool vn, .slice va vb.length vc] := e7
  simp only [List.cons.injEq, and_true] at e0' e1' e2' e3' e4' e5' e6' e7'
  obtain ⟨rfl, rfl⟩ := e6'
  obtain ⟨rfl, rfl⟩ := e7'
  subst e0' e1' e2' e3' e4' e5'
  exact ⟨off, sz, crc, mg, att, tm, kn, vn, ka, va, kc, vc, kb, vb, rfl, bounds_i32 w1, bounds_i32 w2, bounds_i8 w3, bounds_i8 w4, hk, hv⟩
end

set_option maxRecDepth 100000 in
theorem lifted (os : Os) (started : os.Started) (H : Type) (enc : TypeId × Value → H) :
    ReturnsInHanded {} Try.checked os 4 .any (Rows.fnMakeOldSpec.pre6 enc Try.prog Try.f4 Rows.fnMakeOldRow.domain false) (Rows.fnMakeOldSpec.post enc Try.prog Try.f4 false true false false) := by
  refine returnsInHanded_of_change (C := Try.checked) own started (by kernel_rfl) Try.func4
    (ChangeSpec.witness6 (enc := enc) (C := Try.checked) false ⟨#[], #[.slice none 0 0, .agg #[.int .i64 0, .int .i32 0, .int .i32 0, .int .i8 0, .int .i8 0, .int .i64 0, .bool false, .slice none 0 0, .bool false, .slice none 0 0], .bool false], []⟩ 8 (by kernel_rfl) (by kernel_rfl) (by kernel_rfl) (by kernel_rfl)) ?_
  intro W base args ds gs before hval0 hW hcnd _
  have hval : ∀ (j : Nat) t v, Try.f4.params[j]? = some t → args[j]? = some v → Value.okWide Try.prog W .any base t v := hval0
  have hW' := hW
  obtain ⟨p, q, hA0, hV, rfl, hfz, hnd⟩ := hW
  have hA : DataW.TrodAll enc Try.prog W 0 (fun _ => true) true Try.f4.params.toList args.toList ds p := hA0
  rw [Try.params4] at hA hval
  obtain ⟨v0, vs0, d0, ds0, p0, q0, hargs, rfl, rfl, h0, r0⟩ := trodAll_cons hA
  obtain ⟨v1, vs1, d1, ds1, p1, q1, rfl, rfl, rfl, h1, r1⟩ := trodAll_cons r0
  obtain ⟨v2, vs2, d2, ds2, p2, q2, rfl, rfl, rfl, h2, r2⟩ := trodAll_cons r1
  obtain ⟨rfl, rfl, rfl⟩ := trodAll_nil r2
  obtain rfl : args = #[v0, v1, v2] := by cases args; simp_all
  obtain ⟨rfl, rfl⟩ := trodVars_none hV
  have hlt : ∀ x ∈ p0 ++ (p1 ++ (p2 ++ [])), x.block < W.heap.size := fun x hx => hW'.lt x (by simpa using hx)
  obtain ⟨b, rfl, rfl, rfl⟩ := open_bool Try.underlying4 (hval 2 4 v2 rfl rfl) h2
  obtain ⟨cs, rfl, hcs⟩ := okWide_struct Try.underlying34 (hval 1 34 v1 rfl rfl)
  obtain ⟨a0, len, cap, rfl⟩ := okWide_slice Try.underlying29 (hval 0 29 v0 rfl rfl)
  clear hA0 hval0
  obtain ⟨n0, f0⟩ := id h0
  obtain ⟨n1, f1⟩ := id h1
  obtain ⟨sa, sb, sc, es, hs⟩ := rl_open f0
  obtain ⟨off, sz, crc, mg, att, tm, kn, vn, ka, va, kc, vc, kb, vb, ec, hsz, hcrc, hmg, hatt, hk, hv⟩ := old_open f1
  simp only [Value.cells, List.cons.injEq, and_true, Value.slice.injEq] at es
  obtain ⟨rfl, rfl, rfl⟩ := es
  have ec' : cs.toList = _ := ec
  obtain rfl : cs = #[.int .i64 off, .int .i32 sz, .int .i32 crc, .int .i8 mg, .int .i8 att, .int .i64 tm, .bool kn, .slice ka kb.length kc, .bool vn, .slice va vb.length vc] := by
    cases cs
    simpa using ec'
  refine (makeOld.law off sz crc mg att tm hsz hcrc hmg hatt kn vn ka va kc vc kb vb b a0 cap sb W hs hk hv).mono fun e W' ⟨he, hg⟩ => ?_
  subst he
  exact ⟨_, rfl, _, _, _, [], p0 ++ (p1 ++ ([] ++ [])), [], hW', (trodAll_cons_mk (shut_bool Try.underlying4 _) trodAll_mk0),
    (trodAll_cons_mk (Below.trod laidOut (by kernel_rfl) (of_decide_eq_true (by kernel_rfl)) h0 hg fun x hx => hlt x (by simp [hx])) (trodAll_cons_mk (Below.trod laidOut (by kernel_rfl) (of_decide_eq_true (by kernel_rfl)) h1 hg fun x hx => hlt x (by simp [hx])) (trodAll_cons_mk (shut_bool Try.underlying4 _) trodAll_mk0))), rfl, hg.frame _, fun h => by cases h⟩

theorem over : Rows.fnMakeOldRow.holds Try.pinned (OpenSpec.ofChange Rows.fnMakeOldSpec) :=
  OpenClaim.holds_of_wide 4 Try.f4 rfl rfl rfl rfl rfl rfl rfl ⟨rfl, rfl, rfl, rfl, rfl⟩ rfl rfl rfl rfl rfl (by kernel_rfl) Try.func4 (by kernel_rfl)
    (of_decide_eq_true (by kernel_rfl)) (by unfold Func.isWrapper; first | (rw [if_pos (by decide +kernel)]; kernel_rfl) | (rw [if_neg (by decide +kernel)]; exact ⟨rfl, rfl⟩))
    (fun os started H enc _ => lifted os started H enc)

/-- The statement. -/
theorem proved : Rows.FnMakeOldSaid :=
  over
#print axioms proved
end Go.Proofs.Ytfchajjllhndlaa.fnMakeOld
