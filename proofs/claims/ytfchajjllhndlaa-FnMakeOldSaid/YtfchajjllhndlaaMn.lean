/- What is made and written of a message of the elder formats is what the reference says of it, behind what came in. -/
import Derived.Test.YtfchajjllhndlaaMl
namespace Go.Proofs.Ytfchajjllhndlaa.makeOld
open Go Go.RowKit
set_option linter.unusedVariables false

def numOf : Value → Nat
  | .int _ n => n.toNat
  | _ => 0
set_option maxRecDepth 100000 in
set_option maxHeartbeats 1600000 in
theorem sameOK (bs : List UInt8) (x y : Value) (B base : Nat) (w : World) (hb : base ≤ w.heap.size) (hx : RL B w x bs) (hy : RL B w y bs) (hBw : B ≤ base) : Calls Try.prog 17 #[x, y] w fun e w' => e = .returned (.bool true) ∧ Below base w w' := by
  obtain ⟨a, cap, rfl, h1, h2, h3⟩ := hx
  obtain ⟨a', cap', rfl, h1', h2', h3'⟩ := hy
  by_cases hne : bs = []
  · subst hne
    clear h3 h3'
    go_enter Try.func17, Try.ntmps17
    go_wp2_with fail
    refine wp_loop_rounds 1 ?_
    rw [rounds_succ]
    go_wp2
    go_ret
    exact ⟨rfl, Below.refl _ _⟩
  obtain ⟨p, q, rfl, hp, hc⟩ := h3 hne
  obtain ⟨p', q', rfl, hp', hc'⟩ := h3' hne
  have H := Lib.hid (And.intro hc hc')
  clear hc hc' h3 h3' hne
  obtain ⟨n, hn⟩ : ∃ n, bs.length = n := ⟨_, rfl⟩
  rw [hn] at h1 h1' ⊢
  go_enter Try.func17, Try.ntmps17
  go_wp2_with fail
  go_loopw [13] (fun i wr => ∃ k : Nat, k ≤ n ∧ i = .int .i64 k ∧ Below base w wr) (fun i _ => n - numOf i)
  case atStart => exact ⟨0, Nat.zero_le _, rfl, Below.refl _ _⟩
  case round =>
    obtain ⟨k, hk, rfl, hbk⟩ := hrel
    by_cases hkn : k < n
    · obtain ⟨u, hu⟩ : ∃ u, bs[k]? = some u := ⟨bs[k], List.getElem?_eq_getElem (by omega)⟩
      have c1 := (hbk.cell (p := ⟨p, q + k, none⟩) (by show p < base; omega)).trans (H.out.1 k u hu)
      have c2 := (hbk.cell (p := ⟨p', q' + k, none⟩) (by show p' < base; omega)).trans (H.out.2 k u hu)
      have FIN := Lib.hid hbk.drew
      clear hbk hu
      unfold byteV at c1 c2
      generalize (u.toNat : Int) = z at *
      go_wp2_with fail
      go_region_held3 (fun w' => w'.cell? ⟨p, q + k, none⟩ = some (.int .u8 z) ∧ w'.cell? ⟨p', q' + k, none⟩ = some (.int .u8 z)) (first | exact ⟨c1, c2⟩) (first | fail)
      go_wp2
      go_roundw
      case rel => exact ⟨k + 1, by omega, by go_num, FIN.out⟩
      case measure => simp [numOf]; omega
    · have : k = n := by omega
      subst this
      go_wp2
      go_ret
      exact ⟨rfl, hbk⟩

set_option maxHeartbeats 800000 in
theorem fits8 (nl : Bool) (a : Option Addr) (n c : Nat) (w : World) : Calls Try.prog 16 #[.agg #[.bool nl, .slice a n c]] w fun e w' => e = .returned (.bool (decide (n ≤ 2147483647))) ∧ Below w.heap.size w w' := by
  by_cases h : n ≤ 2147483647
  · have h' : ((n : Nat) : Int) ≤ 2147483647 := by omega
    rw [decide_eq_true h]
    clear h
    go_enter Try.func16, Try.ntmps16
    go_wp2
    go_ret
    exact ⟨rfl, (Below.refl _ _).alloc (Nat.le_refl _) _⟩
  · have h' : (2147483647 : Int) < (n : Nat) := by omega
    rw [decide_eq_false h]
    clear h
    go_enter Try.func16, Try.ntmps16
    go_wp2
    go_ret
    exact ⟨rfl, (Below.refl _ _).alloc (Nat.le_refl _) _⟩
set_option maxHeartbeats 1600000 in
theorem fits13 (off sz crc mg att tm : Int) (kn vn : Bool) (ka va : Option Addr) (kc vc : Nat) (kb vb : List UInt8) (w : World) : Calls Try.prog 9 #[.agg #[.int .i64 off, .int .i32 sz, .int .i32 crc, .int .i8 mg, .int .i8 att, .int .i64 tm, .bool kn, .slice ka kb.length kc, .bool vn, .slice va vb.length vc]] w fun e w' => e = .returned (.bool (decide (kb.length ≤ 2147483647) && decide (vb.length ≤ 2147483647))) ∧ Below w.heap.size w w' := by
  have hX := Blk.alloc_new w [.int .i64 off, .int .i32 sz, .int .i32 crc, .int .i8 mg, .int .i8 att, .int .i64 tm, .bool kn, .slice ka kb.length kc, .bool vn, .slice va vb.length vc] 34
  have hb0 := (Below.refl w.heap.size w).alloc (Nat.le_refl _) (.cells #[.int .i64 off, .int .i32 sz, .int .i32 crc, .int .i8 mg, .int .i8 att, .int .i64 tm, .bool kn, .slice ka kb.length kc, .bool vn, .slice va vb.length vc] 34)
  have hs0 : (w.alloc (.cells #[.int .i64 off, .int .i32 sz, .int .i32 crc, .int .i8 mg, .int .i8 att, .int .i64 tm, .bool kn, .slice ka kb.length kc, .bool vn, .slice va vb.length vc] 34)).heap.size = w.heap.size + 1 := by simp
  have H := Lib.hid (And.intro hX (And.intro hb0 hs0))
  clear hX hb0 hs0
  go_enter Try.func9, Try.ntmps9
  go_wp2_with fail
  refine (fits8 kn ka kb.length kc _).mono ?_
  rintro e w1 ⟨rfl, hb1⟩
  have hs0 := H.out.2.2
  have hT := ten (H.out.1.below hb1 (by omega))
  obtain ⟨-, -, -, -, -, -, -, -, m8, m9⟩ := hT
  have b01 := H.out.2.1.trans (hb1.mono (by omega))
  by_cases hk : kb.length ≤ 2147483647
  · rw [decide_eq_true hk]
    clear hb1 hs0
    go_wp2_with fail
    refine (fits8 vn va vb.length vc _).mono ?_
    rintro e w2 ⟨rfl, hb2⟩
    have F := Lib.hid (b01.trans (hb2.mono b01.size))
    clear m8 m9 hb2 b01
    by_cases hv : vb.length ≤ 2147483647
    · rw [decide_eq_true hv]
      go_wp2
      go_ret
      exact ⟨by rw [decide_eq_true hk, decide_eq_true hv]; rfl, F.out⟩
    · rw [decide_eq_false hv]
      go_wp2
      go_ret
      exact ⟨by rw [decide_eq_true hk, decide_eq_false hv]; rfl, F.out⟩
  · rw [decide_eq_false hk]
    have F := Lib.hid b01
    clear m8 m9 hb1 hs0 b01
    go_wp2
    go_ret
    exact ⟨by rw [decide_eq_false hk]; rfl, F.out⟩
set_option maxHeartbeats 1600000 in
theorem fits10 (off sz crc mg att tm : Int) (kn vn : Bool) (ka va : Option Addr) (kc vc : Nat) (kb vb : List UInt8) (hk : kb.length ≤ 2147483647) (hv : vb.length ≤ 2147483647) (w : World) : Calls Try.prog 10 #[.agg #[.int .i64 off, .int .i32 sz, .int .i32 crc, .int .i8 mg, .int .i8 att, .int .i64 tm, .bool kn, .slice ka kb.length kc, .bool vn, .slice va vb.length vc]] w fun e w' => e = .returned (.bool (decide (kb.length + vb.length ≤ 131072))) ∧ Below w.heap.size w w' := by
  have hw : IntKind.i64.wrap ((kb.length : Nat) + (vb.length : Nat) : Int) = ((kb.length : Nat) : Int) + ((vb.length : Nat) : Int) := by rw [IntKind.wrap_i64]; omega
  have he : decide (((kb.length : Nat) : Int) + ((vb.length : Nat) : Int) ≤ 131072) = decide (kb.length + vb.length ≤ 131072) := by
    by_cases h : kb.length + vb.length ≤ 131072
    · rw [decide_eq_true h, decide_eq_true (by omega)]
    · rw [decide_eq_false h, decide_eq_false (by omega)]
  have HE := Lib.hid he
  clear he hk hv
  go_enter Try.func10, Try.ntmps10
  go_wp2
  go_ret
  exact ⟨congrArg (fun b => Ending.returned (Value.bool b)) HE.out, (Below.refl _ _).alloc (Nat.le_refl _) _⟩
set_option maxRecDepth 100000 in
set_option maxHeartbeats 1600000 in
theorem behindOK (sb x : List UInt8) (av bv cv : Value) (B base : Nat) (w : World) (ha : RL B w av (sb ++ x)) (hb : RL B w bv sb) (hc : RL B w cv x) (hB : B ≤ base) (hz : base ≤ w.heap.size) (hl : sb.length + x.length ≤ lim) :
    Calls Try.prog 11 #[av, bv, cv] w fun e w' => e = .returned (.bool true) ∧ Below base w w' := by
  obtain ⟨aa, ac, rfl, -⟩ := id ha
  obtain ⟨ba, bc, rfl, -⟩ := id hb
  obtain ⟨ca, cc, rfl, -⟩ := id hc
  have H := Lib.hid (And.intro ha (And.intro hb hc))
  clear ha hb hc
  obtain ⟨L, hL⟩ : ∃ L, (sb ++ x).length = L := ⟨_, rfl⟩
  rw [hL]
  have HL := Lib.hid hL
  clear hL
  have hE := Blk.alloc_new w [] 5
  have hbel := (Below.refl w.heap.size w).alloc (Nat.le_refl _) (.cells #[] 5)
  have hs2 : (w.alloc (.cells #[] 5)).heap.size = w.heap.size + 1 := by simp
  have Z := Lib.hid (And.intro hE (And.intro hbel hs2))
  clear hE hbel hs2
  go_enter Try.func11, Try.ntmps11
  go_wp2_with (at_builtin; refine halted ?_)
  obtain ⟨hE, hbel, hs2⟩ := Z.out
  generalize w.alloc (.cells #[] 5) = w2 at *
  have hO : w2.ownsRow w.heap.size 5 1 (.slice (some ⟨w.heap.size, 0, none⟩) 0 0) 0 [] := ⟨rfl, .inr ⟨w.heap.size, 0, #[], rfl, Nat.le_refl _, hE, Nat.le_refl _, by unfold maxLen; omega, rfl, rfl⟩⟩
  have hO' : Own w.heap.size w2 (.slice (some ⟨w.heap.size, 0, none⟩) 0 0) [] := by unfold Own; simpa using hO
  clear hO hE
  refine wpl_append_from bt rfl (.tmp 8) (.tmp 9) rfl w.heap.size [] hO' (by omega) sb (Src.ofRL Try.underlying29 (H.out.2.1.below (hbel.mono (Nat.le_trans hB hz)))) (by simp; omega) ?_
  intro v3 w3 hown3 hb3
  rw [List.nil_append] at hown3
  have b03 := hbel.trans hb3
  have X := Lib.hid (And.intro hown3 b03)
  clear hbel hs2 hO' hown3 hb3 b03
  go_wp2_with (at_builtin; refine halted ?_)
  refine wpl_append_from bt rfl (.tmp 10) (.tmp 11) rfl w.heap.size sb X.out.1 X.out.2.size x (Src.ofRL Try.underlying29 (H.out.2.2.below (X.out.2.mono (Nat.le_trans hB hz)))) (by omega) ?_
  intro v4 w4 hown4 hb4
  have b04 := X.out.2.trans hb4
  have S0 := sameOK (sb ++ x) _ v4 w4.heap.size w4.heap.size w4 (Nat.le_refl _) ((H.out.1.below (b04.mono (Nat.le_trans hB hz))).up (Nat.le_trans (Nat.le_trans hB hz) b04.size)) hown4.rl (Nat.le_refl _)
  rw [HL.out] at S0
  have S := Lib.hid S0
  clear S0
  have F := Lib.hid b04
  clear hown4 hb4 b04
  go_wp2_with fail
  refine S.out.mono ?_
  rintro e w5 ⟨rfl, hb5⟩
  have G := Lib.hid ((F.out.trans (hb5.mono F.out.size)).mono hz)
  clear hb5
  go_wp2
  go_ret
  exact ⟨rfl, G.out⟩

set_option maxRecDepth 100000 in
set_option maxHeartbeats 6400000 in
theorem law (off sz crc mg att tm : Int) (hsz : -2147483648 ≤ sz ∧ sz ≤ 2147483647) (hcrc : -2147483648 ≤ crc ∧ crc ≤ 2147483647) (hmg : -128 ≤ mg ∧ mg ≤ 127) (hatt : -128 ≤ att ∧ att ≤ 127) (kn vn : Bool) (ka va : Option Addr) (kc vc : Nat) (kb vb : List UInt8) (one : Bool) (sa : Option Addr) (sc : Nat) (sb : List UInt8) (w : World) (hs : RL w.heap.size w (.slice sa sb.length sc) sb) (hk : RL w.heap.size w (.slice ka kb.length kc) kb) (hv : RL w.heap.size w (.slice va vb.length vc) vb) :
    Calls Try.prog 4 #[.slice sa sb.length sc, .agg #[.int .i64 off, .int .i32 sz, .int .i32 crc, .int .i8 mg, .int .i8 att, .int .i64 tm, .bool kn, .slice ka kb.length kc, .bool vn, .slice va vb.length vc], .bool one] w fun e w' => e = .returned (.bool true) ∧ Below w.heap.size w w' := by
  have hX := Blk.alloc_new w [.int .i64 off, .int .i32 sz, .int .i32 crc, .int .i8 mg, .int .i8 att, .int .i64 tm, .bool kn, .slice ka kb.length kc, .bool vn, .slice va vb.length vc] 34
  have hb0 := (Below.refl w.heap.size w).alloc (Nat.le_refl _) (.cells #[.int .i64 off, .int .i32 sz, .int .i32 crc, .int .i8 mg, .int .i8 att, .int .i64 tm, .bool kn, .slice ka kb.length kc, .bool vn, .slice va vb.length vc] 34)
  have hs0 : (w.alloc (.cells #[.int .i64 off, .int .i32 sz, .int .i32 crc, .int .i8 mg, .int .i8 att, .int .i64 tm, .bool kn, .slice ka kb.length kc, .bool vn, .slice va vb.length vc] 34)).heap.size = w.heap.size + 1 := by simp
  have H := Lib.hid (And.intro hX (And.intro (And.intro hb0 hs0) (And.intro hs (And.intro hk hv))))
  have hlim : lim = 140737488355328 := rfl
  clear hX hb0 hs0 hs hk hv
  by_cases h1 : 2147483647 < sb.length
  · have h1' : (2147483647 : Int) < (sb.length : Nat) := by omega
    clear h1
    go_enter Try.func4, Try.ntmps4
    go_wp2
    go_ret
    exact ⟨rfl, H.out.2.1.1⟩
  have h1' : ((sb.length : Nat) : Int) ≤ 2147483647 := by omega
  clear h1
  go_enter Try.func4, Try.ntmps4
  go_wp2_with fail
  refine (fits13 off sz crc mg att tm kn vn ka va kc vc kb vb _).mono ?_
  rintro e w2 ⟨rfl, hb2⟩
  have hs0 := H.out.2.1.2
  have b02 : Below w.heap.size w w2 := H.out.2.1.1.trans (hb2.mono (by omega))
  have z2 := hb2.size
  have hT2 := ten (H.out.1.below hb2 (by omega))
  have B2 := Lib.hid (And.intro b02 hT2)
  by_cases hf : kb.length ≤ 2147483647 ∧ vb.length ≤ 2147483647
  rotate_left
  · have e : (decide (kb.length ≤ 2147483647) && decide (vb.length ≤ 2147483647)) = false := by
      by_cases h1 : kb.length ≤ 2147483647
      · have h2 : ¬ vb.length ≤ 2147483647 := fun h => hf ⟨h1, h⟩
        rw [decide_eq_false h2, Bool.and_false]
      · rw [decide_eq_false h1, Bool.false_and]
    rw [e]
    clear e hf hT2 b02 hb2 hs0
    go_wp2
    go_ret
    exact ⟨rfl, B2.out.1⟩
  rw [decide_eq_true hf.1, decide_eq_true hf.2]
  obtain ⟨c0, c1, c2, c3, c4, c5, c6, c7, c8, c9⟩ := hT2
  clear b02 hb2
  go_wp2_with fail
  refine (fits10 off sz crc mg att tm kn vn ka va kc vc kb vb hf.1 hf.2 _).mono ?_
  rintro e w3 ⟨rfl, hb3⟩
  have b03 : Below w.heap.size w w3 := B2.out.1.trans (hb3.mono B2.out.1.size)
  have z3 := hb3.size
  have hT3 := keepT hb3 (by omega) B2.out.2
  have C := Lib.hid (And.intro (keepT ((Below.refl w3.heap.size w3).drew) (by omega) hT3) b03.drew)
  have D := Lib.hid b03
  have zd : w3.drew.heap.size = w3.heap.size := rfl
  clear c0 c1 c2 c3 c4 c5 c6 c7 c8 c9 hb3 b03
  obtain ⟨c0, c1, c2, c3, c4, c5, c6, c7, c8, c9⟩ := hT3
  by_cases hq : kb.length + vb.length ≤ 131072
  rotate_left
  · rw [decide_eq_false hq]
    go_wp2
    go_ret
    exact ⟨rfl, D.out⟩
  rw [decide_eq_true hq]
  by_cases hl2 : 131072 < sb.length
  · have hl2' : (131072 : Int) < (sb.length : Nat) := by omega
    clear hl2
    go_wp2
    go_ret
    exact ⟨rfl, D.out⟩
  have hl2' : ((sb.length : Nat) : Int) ≤ 131072 := by omega
  cases one
  · skip
    go_wp2_with fail
    go_region_held3 (fun w' => w'.cell? ⟨w.heap.size, 0, none⟩ = some (.int .i64 off) ∧ w'.cell? ⟨w.heap.size, 1, none⟩ = some (.int .i32 sz) ∧ w'.cell? ⟨w.heap.size, 2, none⟩ = some (.int .i32 crc) ∧ w'.cell? ⟨w.heap.size, 3, none⟩ = some (.int .i8 mg) ∧ w'.cell? ⟨w.heap.size, 4, none⟩ = some (.int .i8 att) ∧ w'.cell? ⟨w.heap.size, 5, none⟩ = some (.int .i64 tm) ∧ w'.cell? ⟨w.heap.size, 6, none⟩ = some (.bool kn) ∧ w'.cell? ⟨w.heap.size, 7, none⟩ = some (.slice ka kb.length kc) ∧ w'.cell? ⟨w.heap.size, 8, none⟩ = some (.bool vn) ∧ w'.cell? ⟨w.heap.size, 9, none⟩ = some (.slice va vb.length vc))
      (first | exact C.out.1 | exact hS4 | exact hS5 | exact hS6)
      (first
        | (go_at_call 14; (with_reducible refine (makeV0 off sz crc mg att tm hsz hcrc hmg hatt kn vn ka va kc vc kb vb sa sc sb w.heap.size w3.drew.heap.size w3.drew (H.out.2.2.1.below C.out.2) (H.out.2.2.2.1.below C.out.2) (H.out.2.2.2.2.below C.out.2) (by omega) (Nat.le_refl _) (by omega) (by omega)).mono ?_); rintro e w4 ⟨v4, rfl, hown4, hb4⟩; have z4 := hb4.size; have hS4 := keepT hb4 (by omega) C.out.1)
        | (go_at_call 13; (with_reducible refine (oldBytes off sz crc mg att tm hsz hcrc hmg hatt kn vn ka va kc vc kb vb false 0 (.inr ⟨rfl, rfl⟩) w.heap.size w4.heap.size w4 (H.out.2.2.2.1.below (C.out.2.trans (hb4.mono (by omega)))) (H.out.2.2.2.2.below (C.out.2.trans (hb4.mono (by omega)))) (by omega) (Nat.le_refl _) (by omega)).mono ?_); rintro e w5 ⟨v5, rfl, hown5, hb5⟩; have z5 := hb5.size; have hS5 := keepT hb5 (by omega) hS4; have b05 : Below w.heap.size w w5 := C.out.2.trans ((hb4.mono (by omega)).trans (hb5.mono (by omega))))
        | (go_at_call 11; refine (behindOK sb (pOld false off sz crc mg att tm (oct kn kb) (oct vn vb)) v4 _ v5 w5.heap.size w5.heap.size w5 ((hown4.stay hb5 (Nat.le_refl _)).rl) ((H.out.2.2.1.below b05).up b05.size) hown5.rl (Nat.le_refl _) (Nat.le_refl _) (by have h1 := pOct_le kn kb; have h2 := pOct_le vn vb; simp [pOld, be32_length, be64_length]; omega)).mono ?_; rintro e w6 ⟨rfl, hb6⟩; have hS6 := keepT hb6 (by omega) hS5))
    have F := Lib.hid (b05.trans (hb6.mono (by omega)))
    clear hown4 hown5 hb4 hb5 hb6 hS4 hS5 hS6 b05
    go_wp2
    go_ret
    exact ⟨rfl, F.out⟩
  · skip
    go_wp2_with fail
    go_region_held3 (fun w' => w'.cell? ⟨w.heap.size, 0, none⟩ = some (.int .i64 off) ∧ w'.cell? ⟨w.heap.size, 1, none⟩ = some (.int .i32 sz) ∧ w'.cell? ⟨w.heap.size, 2, none⟩ = some (.int .i32 crc) ∧ w'.cell? ⟨w.heap.size, 3, none⟩ = some (.int .i8 mg) ∧ w'.cell? ⟨w.heap.size, 4, none⟩ = some (.int .i8 att) ∧ w'.cell? ⟨w.heap.size, 5, none⟩ = some (.int .i64 tm) ∧ w'.cell? ⟨w.heap.size, 6, none⟩ = some (.bool kn) ∧ w'.cell? ⟨w.heap.size, 7, none⟩ = some (.slice ka kb.length kc) ∧ w'.cell? ⟨w.heap.size, 8, none⟩ = some (.bool vn) ∧ w'.cell? ⟨w.heap.size, 9, none⟩ = some (.slice va vb.length vc))
      (first | exact C.out.1 | exact hS4 | exact hS5 | exact hS6)
      (first
        | (go_at_call 12; (with_reducible refine (makeV1 off sz crc mg att tm hsz hcrc hmg hatt kn vn ka va kc vc kb vb sa sc sb w.heap.size w3.drew.heap.size w3.drew (H.out.2.2.1.below C.out.2) (H.out.2.2.2.1.below C.out.2) (H.out.2.2.2.2.below C.out.2) (by omega) (Nat.le_refl _) (by omega) (by omega)).mono ?_); rintro e w4 ⟨v4, rfl, hown4, hb4⟩; have z4 := hb4.size; have hS4 := keepT hb4 (by omega) C.out.1)
        | (go_at_call 13; (with_reducible refine (oldBytes off sz crc mg att tm hsz hcrc hmg hatt kn vn ka va kc vc kb vb true 1 (.inl ⟨rfl, rfl⟩) w.heap.size w4.heap.size w4 (H.out.2.2.2.1.below (C.out.2.trans (hb4.mono (by omega)))) (H.out.2.2.2.2.below (C.out.2.trans (hb4.mono (by omega)))) (by omega) (Nat.le_refl _) (by omega)).mono ?_); rintro e w5 ⟨v5, rfl, hown5, hb5⟩; have z5 := hb5.size; have hS5 := keepT hb5 (by omega) hS4; have b05 : Below w.heap.size w w5 := C.out.2.trans ((hb4.mono (by omega)).trans (hb5.mono (by omega))))
        | (go_at_call 11; refine (behindOK sb (pOld true off sz crc mg att tm (oct kn kb) (oct vn vb)) v4 _ v5 w5.heap.size w5.heap.size w5 ((hown4.stay hb5 (Nat.le_refl _)).rl) ((H.out.2.2.1.below b05).up b05.size) hown5.rl (Nat.le_refl _) (Nat.le_refl _) (by have h1 := pOct_le kn kb; have h2 := pOct_le vn vb; simp [pOld, be32_length, be64_length]; omega)).mono ?_; rintro e w6 ⟨rfl, hb6⟩; have hS6 := keepT hb6 (by omega) hS5))
    have F := Lib.hid (b05.trans (hb6.mono (by omega)))
    clear hown4 hown5 hb4 hb5 hb6 hS4 hS5 hS6 b05
    go_wp2
    go_ret
    exact ⟨rfl, F.out⟩

end Go.Proofs.Ytfchajjllhndlaa.makeOld
