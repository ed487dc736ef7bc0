/- The law of the sources of configurations: whatever the number, it answers true. -/
import Derived.Test.YtpjoglnopfmjfaaDoorNy
import Derived.Deep.RegionHeld3
namespace Go.Proofs.YtpjoglnopfmjfaaDoor
open Go Go.RowKit

theorem step_append_from {P : Program} {w : World} {ops : Array Oper} {o : Oper} {a : Act} {K : Act → World → Prop} {Q : Exit → Act → World → Prop} {E : Prop} {t tx : TypeId} (T : BytesT P t 5) (hgd : o.guard = none) (s x : Operand)
    (ho : o.op = .call { callee := .builtin .append, args := #[s, x], argTypes := #[t, tx] }) (base : Nat) (bs : List UInt8) (hown : Own base w (a.eval s) bs) (hb : base ≤ w.heap.size)
    (bs' : List UInt8) (hsrc : Src P 1 tx (a.eval x) bs'.length (bs'.map byteV) w) (hl : bs.length + bs'.length ≤ lim)
    (h : ∀ v' w', Own base w' v' (bs ++ bs') → Below base w w' → K (a.put o.dst v') w') : if Region.wanted o (yielded ops a.tmps) = true then Oper.wp P o a w K Q else E := by
  have hw : Region.wanted o (yielded ops a.tmps) = true := by simp [Region.wanted, hgd]
  rw [if_pos hw]
  obtain ⟨i, hi, hz, hs, hby⟩ := T.info
  refine wp_append_src s x t tx ho base 5 i (.int .u8 0) 1 1 T.under hi hz hs hby rfl (a.eval s) bs.length (bs.map byteV) rfl hown _ bs'.length (bs'.map byteV) rfl hsrc (lim_max hl) (lim_room hl) hb ?_
  intro v' w' hown' hg _
  refine h v' w' ?_ ?_
  · unfold Own
    simpa using hown'
  · exact (Below.refl _ _).grown hg hb (fun k hk => by
      have := hown.lt k hk
      omega)
theorem cfgFacts {n : Int} {x : List UInt8} (h : cfgWord n = some x) : Ascii x ∧ x.length ≤ 100 ∧ lookCfg (normC x) = some n := by
  unfold cfgWord at h
  repeat' split at h
  all_goals first
    | (cases h; done)
    | (injection h with h; subst h; subst_vars
       refine ⟨?_, by decide, by decide +kernel⟩
       unfold Ascii
       decide)
set_option maxRecDepth 100000 in
set_option maxHeartbeats 1600000 in
theorem stringCfg {n : Int} {x : List UInt8} (h : cfgWord n = some x) (w : World) : Calls Tryd.prog 21 #[.int .i8 n] w fun e w' => e = .returned (.string ⟨x.toArray⟩) ∧ w' = w := by
  unfold cfgWord at h
  repeat' split at h
  all_goals first
    | (cases h; done)
    | (injection h with h; subst h; subst_vars
       go_enter Tryd.func21, Tryd.ntmps21
       go_wp2
       go_ret
       exact ⟨rfl, rfl⟩)
set_option maxRecDepth 100000 in
set_option maxHeartbeats 1600000 in
theorem implString {n : Int} {x : List UInt8} (h : cfgWord n = some x) (w : World) : Calls Tryd.prog 13 #[.int .i8 n] w fun e w' => e = .returned (.string ⟨x.toArray⟩) ∧ w' = w := by
  have C := Lib.hid (stringCfg h w)
  clear h
  go_enter Tryd.func13, Tryd.ntmps13
  go_wp2_with fail
  refine C.out.mono ?_
  rintro e w1 ⟨rfl, rfl⟩
  go_wp2
  go_ret
  exact ⟨rfl, rfl⟩
set_option maxRecDepth 100000 in
set_option maxHeartbeats 1600000 in
theorem marshalCfg {n : Int} {x : List UInt8} (h : cfgWord n = some x) (w : World) : Calls Tryd.prog 20 #[.int .i8 n] w fun e w' => ∃ v, e = .returned (.tuple #[v, .nilIface]) ∧ RB [] w' v x ∧ Below w.heap.size w w' := by
  have C := Lib.hid (stringCfg h w)
  obtain ⟨v, w3, hcv, hrb, hb3⟩ := convText x w (by have := (cfgFacts h).2.1; omega)
  have X := Lib.hid (And.intro hrb hb3)
  clear h hrb hb3
  go_enter Tryd.func20, Tryd.ntmps20
  go_wp2_with fail
  refine C.out.mono ?_
  rintro e w1 ⟨rfl, rfl⟩
  go_wp2
  go_ret2
  exact ⟨_, rfl, X.out.1, X.out.2⟩
set_option maxRecDepth 100000 in
set_option maxHeartbeats 1600000 in
theorem implText {n : Int} {x : List UInt8} (h : cfgWord n = some x) (w : World) : Calls Tryd.prog 12 #[.int .i8 n] w fun e w' => ∃ v, e = .returned (.tuple #[v, .bool true]) ∧ RB [] w' v x ∧ Below w.heap.size w w' := by
  have C := Lib.hid (marshalCfg h w)
  have hl := (cfgFacts h).2.1
  have hlim : 1000000 ≤ lim := by decide
  have L := Lib.hid (show ([] : List UInt8).length + x.length ≤ lim by simp; omega)
  clear h hl hlim
  go_enter Tryd.func12, Tryd.ntmps12
  go_wp2_with fail
  refine C.out.mono ?_
  rintro e w1 ⟨v, rfl, hrb, hb⟩
  have X := Lib.hid (And.intro hrb hb)
  clear hrb hb C
  obtain ⟨va, vc, rfl, -⟩ : ∃ a c, v = .slice a x.length c ∧ True := by obtain ⟨a, c, h, -⟩ := X.out.1; exact ⟨a, c, h, trivial⟩
  go_wp2_with fail
  go_region_held3 (fun _ => True) (first | trivial)
    (first | (refine step_append_from bt rfl (.const (.slice none 0 0)) (.tmp 11) rfl w1.drew.heap.size [] (Own.nil _ _) (Nat.le_refl _) x (Src.ofRB (O := []) Tryd.underlying26 X.out.1) L.out ?_; intro v2 w2 hown2 hb2))
  rw [List.nil_append] at hown2
  have z1 := X.out.2.size
  have Y := Lib.hid (And.intro (hown2.rb [] (by simp)) (X.out.2.trans ((show Below w1.heap.size w1 w2 from ⟨hb2.os, hb2.tape, hb2.output, hb2.size, hb2.block⟩).mono z1)))
  clear hown2 hb2
  go_wp2
  go_ret2
  exact ⟨_, rfl, Y.out.1, Y.out.2⟩

set_option maxRecDepth 100000 in
set_option maxHeartbeats 3200000 in
theorem lawCfg (n : Int) (h0 : -128 ≤ n) (h1 : n ≤ 127) (w : World) (htab : Go.Lib.TabIs Tryd.prog w "strings.asciiSpace" .u8 Go.Lib.asciiSpaceTab) :
    Calls Tryd.prog 4 #[.int .i8 n] w fun e w' => e = .returned (.bool true) ∧ Below w.heap.size w w' := by
  have hg : Tryd.prog.globalNamed "strings.asciiSpace" = some 0 := by kernel_rfl
  have hw : (n + 9223372036854775808) % 18446744073709551616 - 9223372036854775808 = n := by omega
  have H := Lib.hid (And.intro hg htab)
  clear hg htab
  cases hx : cfgWord n with
  | none =>
    have HX := Lib.hid hx
    clear hx
    go_enter Tryd.func4, Tryd.ntmps4
    go_wp2_with fail
    refine (cfgTable _).mono ?_
    rintro e w1 ⟨rfl, hB, hb⟩
    have C := Lib.hid (wordCfg n _ w1 hB hB.lt)
    have B := Lib.hid hb
    clear hB hb
    rw [HX.out] at C
    go_wp2_with fail
    refine C.out.mono ?_
    rintro e w2 ⟨rfl, hb2⟩
    have B2 := Lib.hid (B.out.trans (hb2.mono B.out.size))
    clear hb2 C
    unfold wordOut
    go_wp2
    go_ret
    exact ⟨rfl, B2.out⟩
  | some x =>
    obtain ⟨f1, f2, f3⟩ := cfgFacts hx
    have HX := Lib.hid (And.intro hx (And.intro f1 (And.intro f2 f3)))
    have CS := Lib.hid (fun w => implString hx w)
    have CT := Lib.hid (fun w => implText hx w)
    clear hx f1 f2 f3
    go_enter Tryd.func4, Tryd.ntmps4
    go_wp2_with fail
    refine (cfgTable _).mono ?_
    rintro e w1 ⟨rfl, hB, hb⟩
    have C := Lib.hid (wordCfg n _ w1 hB hB.lt)
    have B := Lib.hid hb
    clear hB hb
    rw [HX.out.1] at C
    go_wp2_with fail
    refine C.out.mono ?_
    rintro e w2 ⟨rfl, hb2⟩
    have B2 := Lib.hid (B.out.trans (hb2.mono B.out.size))
    clear hb2 C
    unfold wordOut
    go_wp2_with fail
    refine (CT.out _).mono ?_
    rintro e w3 ⟨v, rfl, hrb, hb3⟩
    have B3 := Lib.hid (And.intro hrb (B2.out.trans (hb3.mono B2.out.size)))
    have hcv := run_conv hrb
    obtain ⟨va, vc, rfl, -⟩ : ∃ a c, v = .slice a x.length c ∧ True := by obtain ⟨a, c, h, -⟩ := hrb; exact ⟨a, c, h, trivial⟩
    clear hrb hb3
    have C1 := Lib.hid (implCfg x w3 (by have := HX.out.2.2.1; omega) HX.out.2.1 (Go.Joins.tab_stays H.out.1 H.out.2 B3.out.2 (Nat.le_refl _)))
    go_wp2_with fail
    refine (CS.out _).mono ?_
    rintro e w4 ⟨rfl, rfl⟩
    go_wp2_with fail
    refine C1.out.mono ?_
    rintro e w5 ⟨⟨n1, ok1, rfl, hd1⟩, hb5⟩
    have b5 := B3.out.2.trans (hb5.mono B3.out.2.size)
    have C2 := Lib.hid (ofTextCfg _ x w5 (by have := HX.out.2.2.1; omega) HX.out.2.1 (Go.Joins.tab_stays H.out.1 H.out.2 b5 (Nat.le_refl _)) (B3.out.1.keeps (Keeps.of_below (O := []) hb5 (Nat.le_refl _))).rl)
    have B5 := Lib.hid b5
    clear hb5 b5 C1 hcv
    go_wp2_with fail
    refine C2.out.mono ?_
    rintro e w6 ⟨⟨n2, ok2, rfl, hd2⟩, hb6⟩
    have B6 := Lib.hid (B5.out.trans (hb6.mono B5.out.size))
    obtain ⟨rfl, rfl⟩ : n = n1 ∧ ok1 = true := by
      rcases hd1 with ⟨h, h2⟩ | ⟨h, -⟩
      · rw [HX.out.2.2.2] at h
        exact ⟨by injection h, h2⟩
      · rw [HX.out.2.2.2] at h
        cases h
    obtain ⟨rfl, rfl⟩ : n = n2 ∧ ok2 = true := by
      rcases hd2 with ⟨h, h2⟩ | ⟨h, -⟩
      · rw [HX.out.2.2.2] at h
        exact ⟨by injection h, h2⟩
      · rw [HX.out.2.2.2] at h
        cases h
    clear hd1 hd2 hb6 C2
    go_wp2
    go_ret
    exact ⟨rfl, B6.out⟩
end Go.Proofs.YtpjoglnopfmjfaaDoor
