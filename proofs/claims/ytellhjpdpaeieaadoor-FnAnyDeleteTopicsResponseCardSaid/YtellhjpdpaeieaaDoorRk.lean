/- The reader's functions read just what the plain functions say. -/
import Derived.Test.YtellhjpdpaeieaaDoorRm
import Derived.Test.YtellhjpdpaeieaaDoorShelf
import Derived.Lib.Hide
import Derived.Lib.Endian
import Derived.Deep.RegionHeld3
namespace Go.Proofs.YtellhjpdpaeieaaDoor
open Go Go.RowKit
set_option linter.unusedVariables false

/-- The ending of a function that reads by p from the state st on: V tells the value; D what is handed back where too little is left. -/
def RdPost {α : Type} (p : Pr α) (V : List Nat → World → Value → α → Prop) (D : Value → Prop) (O : List Nat) (rb : Nat) (w : World) (st : Option (List UInt8)) (e : Ending) (w' : World) : Prop :=
  ∃ v, e = .returned v ∧ Rdr O w' rb ((st.bind p).map (·.2)) ∧ Keeps [rb] w w' ∧ (st.bind p = none → D v) ∧ ∀ x r, st.bind p = some (x, r) → V O w' v x
/-- Function f, handed the reader, reads by p. -/
def RdC {α : Type} (P : Program) (f : Nat) (p : Pr α) (V : List Nat → World → Value → α → Prop) (D : Value → Prop) : Prop :=
  ∀ (O : List Nat) (rb : Nat) (w : World) (st : Option (List UInt8)), rb ∈ O → (∀ k, k ∈ O → k < w.heap.size) → Rdr O w rb st → Calls P f #[.pointer (some ⟨rb, 0, none⟩)] w (RdPost p V D O rb w st)
theorem RdPost.bad {α : Type} {p : Pr α} {V : List Nat → World → Value → α → Prop} {D : Value → Prop} {O : List Nat} {rb : Nat} {w w' : World} {st : Option (List UInt8)} {v : Value} (hst : st.bind p = none) (h : Rdr O w' rb none) (hk : Keeps [rb] w w') (hD : D v) : RdPost p V D O rb w st (.returned v) w' := by
  refine ⟨v, rfl, ?_, hk, fun _ => hD, fun x r hx => by rw [hst] at hx; cases hx⟩
  rw [hst]
  exact h
theorem RdPost.good {α : Type} {p : Pr α} {V : List Nat → World → Value → α → Prop} {D : Value → Prop} {O : List Nat} {rb : Nat} {w w' : World} {bs r : List UInt8} {v : Value} {x : α} (hst : p bs = some (x, r)) (h : Rdr O w' rb (some r) ∧ Keeps [rb] w w') (hV : V O w' v x) :
    RdPost p V D O rb w (some bs) (.returned v) w' := by
  refine ⟨v, rfl, ?_, h.2, (fun hx => by rw [show (some bs).bind p = _ from hst] at hx; cases hx), fun y r' hx => ?_⟩
  · rw [show (some bs).bind p = _ from hst]
    exact h.1
  · rw [show (some bs).bind p = _ from hst] at hx
    cases hx
    exact hV
theorem RdPost.good2 {α : Type} {p : Pr α} {V : List Nat → World → Value → α → Prop} {D : Value → Prop} {O : List Nat} {rb : Nat} {w w1 w' : World} {bs r : List UInt8} {v : Value} {x : α} (hst : p bs = some (x, r)) (hk : Keeps [rb] w w1)
    (h : Rdr O w' rb (some r) ∧ Keeps [rb] w1 w') (hV : V O w' v x) : RdPost p V D O rb w (some bs) (.returned v) w' := .good hst ⟨h.1, hk.trans h.2⟩ hV
theorem Rdr.parts {O : List Nat} {w : World} {rb : Nat} {bs : List UInt8} (h : Rdr O w rb (some bs)) : ∃ a cap, Blk w rb [.slice a bs.length cap, .bool false] 119 ∧ bs.length ≤ cap ∧ cap ≤ 9223372036854775807 ∧
    (bs ≠ [] → ∃ b o, a = some ⟨b, o, none⟩ ∧ b ∉ O ∧ ∀ i u, bs[i]? = some u → w.cell? ⟨b, o + i, none⟩ = some (byteV u)) ∧ bs.length ≤ 2147483646 := by
  obtain ⟨sv, h, ⟨a, cap, rfl, h1, h2, h3⟩, hl⟩ := h
  exact ⟨a, cap, h, h1, h2, h3, hl⟩
theorem Rdr.fail {O : List Nat} {w : World} {rb T : Nat} {x y : Value} (h : Blk w rb [x, y] 119) :
    Rdr O ((w.setCell ⟨rb, 1, none⟩ (.bool true)).setCell ⟨rb, 0, none⟩ (.slice none 0 0)) rb none ∧ Keeps [rb] w ((w.setCell ⟨rb, 1, none⟩ (.bool true)).setCell ⟨rb, 0, none⟩ (.slice none 0 0)) :=
  ⟨(h.set 1 (.bool true)).set 0 (.slice none 0 0), ((Keeps.refl [rb] w).setCell (List.mem_singleton.2 rfl) _).setCell (List.mem_singleton.2 rfl) _⟩
theorem RB.drop {O : List Nat} {w : World} {b o cap k : Nat} {bs : List UInt8} (h1 : bs.length ≤ cap) (h2 : cap ≤ 9223372036854775807) (hb : b ∉ O) (hc : ∀ i u, bs[i]? = some u → w.cell? ⟨b, o + i, none⟩ = some (byteV u)) (hk : k ≤ bs.length) {sv : Value}
    (hsv : sv = .slice (some ⟨b, o + k, none⟩) (bs.length - k) (cap - k) ∨ (cap = k ∧ sv = .slice (some ⟨b, o, none⟩) (bs.length - k) 0)) : RB O w sv (bs.drop k) := by
  rcases hsv with rfl | ⟨rfl, rfl⟩
  · refine ⟨some ⟨b, o + k, none⟩, cap - k, by rw [List.length_drop], by rw [List.length_drop]; omega, by omega, fun _ => ⟨b, o + k, rfl, hb, fun i u hi => ?_⟩⟩
    rw [List.getElem?_drop] at hi
    rw [Nat.add_assoc]
    exact hc _ _ hi
  · have e : bs.drop cap = [] := List.drop_eq_nil_of_le h1
    rw [e]
    refine ⟨some ⟨b, o, none⟩, 0, ?_, Nat.le_refl _, by omega, fun h => absurd rfl h⟩
    have : bs.length - cap = 0 := by omega
    rw [this]
    rfl
theorem Rdr.adv {O : List Nat} {w : World} {rb b o cap k : Nat} {x : Value} {bs : List UInt8} (hM : bs.length ≤ 2147483646) (hrb : rb ∈ O) (h : Blk w rb [x, .bool false] 119) (h1 : bs.length ≤ cap) (h2 : cap ≤ 9223372036854775807) (hb : b ∉ O)
    (hc : ∀ i u, bs[i]? = some u → w.cell? ⟨b, o + i, none⟩ = some (byteV u)) (hk : k ≤ bs.length) {sv : Value} (hsv : sv = .slice (some ⟨b, o + k, none⟩) (bs.length - k) (cap - k) ∨ (cap = k ∧ sv = .slice (some ⟨b, o, none⟩) (bs.length - k) 0)) :
    Rdr O (w.setCell ⟨rb, 0, none⟩ sv) rb (some (bs.drop k)) ∧ Keeps [rb] w (w.setCell ⟨rb, 0, none⟩ sv) := by
  have hk2 : Keeps [rb] w (w.setCell ⟨rb, 0, none⟩ sv) := (Keeps.refl [rb] w).setCell (List.mem_singleton.2 rfl) _
  refine ⟨⟨sv, h.set 0 sv, ?_, by rw [List.length_drop]; omega⟩, hk2⟩
  exact (RB.drop h1 h2 hb hc hk hsv).keeps (hk2.mono fun k hk => by rw [List.mem_singleton.1 hk]; exact hrb)
theorem nil_or {bs : List UInt8} (k : Nat) (hk : 0 < k) : bs.length < k ∨ (k ≤ bs.length ∧ bs ≠ []) := by
  by_cases h : bs.length < k
  · exact .inl h
  · exact .inr ⟨by omega, fun e => by subst e; simp at h; omega⟩
theorem take_short {k : Nat} {bs : List UInt8} (h : bs.length < k) : rdTake k bs = none := if_neg (by omega)
theorem take_long {k : Nat} {bs : List UInt8} (h : k ≤ bs.length) : rdTake k bs = some (bs.take k, bs.drop k) := if_pos h
theorem nat_short {k : Nat} {bs : List UInt8} (h : bs.length < k) : rdNat k bs = none := bind_none (take_short h)
theorem nat_long {k : Nat} {bs : List UInt8} (h : k ≤ bs.length) : rdNat k bs = some (beNat (bs.take k), bs.drop k) := bind_eq (take_long h)
theorem int_short {k : Nat} {m : Int} {bs : List UInt8} (h : bs.length < k) : rdInt k m bs = none := bind_none (nat_short h)
theorem int_long {k : Nat} {m : Int} {bs : List UInt8} (h : k ≤ bs.length) : rdInt k m bs = some (sg m (beNat (bs.take k)), bs.drop k) := bind_eq (nat_long h)
theorem sg8 (u : Nat) (h : u < 256) : sg 128 u = IntKind.i8.wrap u := by
  simp only [sg, IntKind.wrap, IntKind.bits, IntKind.signed]
  simp
  split <;> omega
theorem sg16 (u : Nat) : sg 32768 u = IntKind.i16.wrap u := by
  simp only [sg, IntKind.wrap, IntKind.bits, IntKind.signed]
  simp
  split <;> omega
theorem sg32 (u : Nat) : sg 2147483648 u = IntKind.i32.wrap u := by
  rw [IntKind.wrap_i32]
  rfl
theorem sg64 (u : Nat) : sg 9223372036854775808 u = IntKind.i64.wrap u := by
  rw [IntKind.wrap_i64]
  rfl
theorem nat_ne0 (z : Nat) : ((z : Int) != 0) = !decide (z = 0) := by
  cases z with
  | zero => rfl
  | succ k => simp; omega
theorem keep_rb {w w' : World} {rb b o : Nat} {x y z : Value} (hb : Below w.heap.size w w') (hB : Blk w rb [x, y] 119) : Blk w' rb [x, y] 119 := hB.below hb hB.lt
theorem rBool_bad (O : List Nat) (rb : Nat) (w : World) (a : Option Addr) (n cap : Nat) (f : Bool) (hn : n < 1) (hB : Blk w rb [.slice a n cap, .bool f] 119) : Calls Tryd.prog 109 #[.pointer (some ⟨rb, 0, none⟩)] w fun e w' => e = .returned (.bool false) ∧ Rdr O w' rb none ∧ Keeps [rb] w w' := by
  have m0 := hB.cell_some (i := 0) rfl
  have m1 := hB.cell_some (i := 1) rfl
  have f0 := hB.frozen 0
  have f1 := hB.frozen 1
  have Z := Lib.hid (Rdr.fail (O := O) (T := 0) hB)
  clear hB
  go_enter Tryd.func109, Tryd.ntmps109
  go_wp2
  go_ret
  exact ⟨rfl, Z.out⟩
set_option maxHeartbeats 2000000 in
theorem rBool : RdC Tryd.prog 109 (rdNat 1) (fun _ _ v n => v = .bool (decide (n ≠ 0))) (fun v => v = .bool false) := by
  intro O rb w st hO hlt h
  cases st with
  | none => exact (rBool_bad O rb w none 0 0 true (by omega) h).mono (by rintro e w' ⟨rfl, g1, g2⟩; exact .bad rfl g1 g2 rfl)
  | some bs =>
    obtain ⟨a, cap, hB, h1, h2, h3, hM⟩ := h.parts
    rcases nil_or (bs := bs) 1 (by omega) with hs | ⟨hl, hne⟩
    · exact (rBool_bad O rb w a bs.length cap false hs hB).mono (by rintro e w' ⟨rfl, g1, g2⟩; exact .bad (nat_short hs) g1 g2 rfl)
    obtain ⟨b, o, rfl, hb, hc⟩ := h3 hne
    have ad := fun w' (hB' : Blk w' rb [.slice (some ⟨b, o, none⟩) bs.length cap, .bool false] 119) hc' (sv : Value) => Rdr.adv (O := O) (w := w') (o := o) (k := 1) (sv := sv) hM hO hB' h1 h2 hb hc' hl
    have hrd := nat_long (k := 1) hl
    obtain ⟨u0, r, rfl⟩ : ∃ u0 r, bs = u0 :: r := match bs, hl with
    | [], h => absurd h (by simp)
    | u0 :: r, _ => ⟨_, _, rfl⟩
    have c0 := hc 0 u0 rfl
    have m0 := hB.cell_some (i := 0) rfl
    have f0 := hB.frozen 0
    have et : (u0 :: r).take 1 = [u0] := rfl
    rw [et] at hrd
    have ev : beNat [u0] = u0.toNat := by simp [beNat]
    rw [ev] at hrd
    have Z := Lib.hid (ad w hB hc)
    rw [Nat.add_zero] at c0
    unfold byteV at c0
    clear ad hB h hlt hc h3 hne hM
    have HRD := Lib.hid hrd
    clear hrd et
    generalize (u0 :: r) = bs at *
    generalize hlen : bs.length = n at *
    clear hlen
    generalize u0.toNat = z at *
    go_enter Tryd.func109, Tryd.ntmps109
    go_wp2
    all_goals go_ret
    all_goals exact .good HRD.out (Z.out _ (by first | exact .inl rfl | exact .inr ⟨by assumption, rfl⟩)) (by first | rfl | exact congrArg Value.bool (nat_ne0 _))
theorem rInt16_bad (O : List Nat) (rb : Nat) (w : World) (a : Option Addr) (n cap : Nat) (f : Bool) (hn : n < 2) (hB : Blk w rb [.slice a n cap, .bool f] 119) : Calls Tryd.prog 99 #[.pointer (some ⟨rb, 0, none⟩)] w fun e w' => e = .returned (.int .i16 0) ∧ Rdr O w' rb none ∧ Keeps [rb] w w' := by
  have m0 := hB.cell_some (i := 0) rfl
  have m1 := hB.cell_some (i := 1) rfl
  have f0 := hB.frozen 0
  have f1 := hB.frozen 1
  have Z := Lib.hid (Rdr.fail (O := O) (T := 0) hB)
  clear hB
  go_enter Tryd.func99, Tryd.ntmps99
  go_wp2
  go_ret
  exact ⟨rfl, Z.out⟩
set_option maxHeartbeats 2000000 in
theorem rInt16 : RdC Tryd.prog 99 (rdInt 2 32768) (fun _ _ v n => v = .int .i16 n) (fun v => v = .int .i16 0) := by
  intro O rb w st hO hlt h
  cases st with
  | none => exact (rInt16_bad O rb w none 0 0 true (by omega) h).mono (by rintro e w' ⟨rfl, g1, g2⟩; exact .bad rfl g1 g2 rfl)
  | some bs =>
    obtain ⟨a, cap, hB, h1, h2, h3, hM⟩ := h.parts
    rcases nil_or (bs := bs) 2 (by omega) with hs | ⟨hl, hne⟩
    · exact (rInt16_bad O rb w a bs.length cap false hs hB).mono (by rintro e w' ⟨rfl, g1, g2⟩; exact .bad (int_short hs) g1 g2 rfl)
    obtain ⟨b, o, rfl, hb, hc⟩ := h3 hne
    have ad := fun w' (hB' : Blk w' rb [.slice (some ⟨b, o, none⟩) bs.length cap, .bool false] 119) hc' (sv : Value) => Rdr.adv (O := O) (w := w') (o := o) (k := 2) (sv := sv) hM hO hB' h1 h2 hb hc' hl
    have hrd := int_long (k := 2) (m := 32768) hl
    obtain ⟨u0, u1, r, rfl⟩ : ∃ u0 u1 r, bs = u0 :: u1 :: r := match bs, hl with
    | [], h => absurd h (by simp)
    | [_], h => absurd h (by simp)
    | u0 :: u1 :: r, _ => ⟨_, _, _, rfl⟩
    have c0 := hc 0 u0 rfl
    have c1 := hc 1 u1 rfl
    have m0 := hB.cell_some (i := 0) rfl
    have f0 := hB.frozen 0
    have et : (u0 :: u1 :: r).take 2 = [u0, u1] := rfl
    rw [et] at hrd
    have eb : beNat [u0, u1] = Lib.beNat [u0, u1] := by simp [beNat, Lib.beNat, Lib.beFrom]
    rw [eb] at hrd
    rw [sg16] at hrd
    have BE := fun w' (hw : w'.heap = w.heap) => Tryd.binary_BE_Uint16 b o (u0 :: u1 :: r).length cap u0 u1 w' (by simp) (by rw [show w'.cell? _ = w.cell? _ from World.cell?_of_block (by rw [hw])]; exact c0) (by rw [show w'.cell? _ = w.cell? _ from World.cell?_of_block (by rw [hw])]; exact c1)
    have Z := Lib.hid (fun w' (hw : Below w.heap.size w w') sv hsv => ad w' (hB.below hw hB.lt) (fun i u hi => (hw.cell (p := ⟨b, o + i, none⟩) (World.block_lt_of_cell? w _ (hc i u hi))).trans (hc i u hi)) sv hsv)
    have HB := Lib.hid hB
    have BEh := Lib.hid BE
    have HRD := Lib.hid hrd
    have hlen := hl
    clear BE ad hB h hlt hc h3 hne eb hlen hM c0 c1
    generalize (u0 :: u1 :: r).length = n at *
    go_enter Tryd.func99, Tryd.ntmps99
    go_wp2_with fail
    go_region_held3 (fun w' => w'.cell? ⟨rb, 0, none⟩ = some (.slice (some ⟨b, o, none⟩) n cap)) (first | exact hS2 | exact m0)
      (first | (go_at_call 123; refine (BEh.out w.drew rfl).mono ?_; rintro e w2 ⟨rfl, hb2⟩; have hS2 := (HB.out.drew.below hb2 HB.out.lt).cell_some (i := 0) rfl))
    have hbw : Below w.heap.size w w2 := (Below.refl _ _).drew.trans hb2
    have hB2 := HB.out.below hbw HB.out.lt
    have m2 := hB2.cell_some (i := 0) rfl
    have f2 := hB2.frozen 0
    have Z2 := Lib.hid (Z.out w2 hbw)
    have KW := Lib.hid (Keeps.of_below (O := [rb]) hbw (Nat.le_refl _))
    clear hbw hB2 hb2 f0 m0 hS2
    go_wp2
    all_goals go_ret
    all_goals exact .good2 HRD.out KW.out (Z2.out _ (by first | exact .inl rfl | exact .inr ⟨by assumption, rfl⟩)) rfl
theorem rInt32_bad (O : List Nat) (rb : Nat) (w : World) (a : Option Addr) (n cap : Nat) (f : Bool) (hn : n < 4) (hB : Blk w rb [.slice a n cap, .bool f] 119) : Calls Tryd.prog 81 #[.pointer (some ⟨rb, 0, none⟩)] w fun e w' => e = .returned (.int .i32 0) ∧ Rdr O w' rb none ∧ Keeps [rb] w w' := by
  have m0 := hB.cell_some (i := 0) rfl
  have m1 := hB.cell_some (i := 1) rfl
  have f0 := hB.frozen 0
  have f1 := hB.frozen 1
  have Z := Lib.hid (Rdr.fail (O := O) (T := 0) hB)
  clear hB
  go_enter Tryd.func81, Tryd.ntmps81
  go_wp2
  go_ret
  exact ⟨rfl, Z.out⟩
set_option maxHeartbeats 2000000 in
theorem rInt32 : RdC Tryd.prog 81 (rdInt 4 2147483648) (fun _ _ v n => v = .int .i32 n) (fun v => v = .int .i32 0) := by
  intro O rb w st hO hlt h
  cases st with
  | none => exact (rInt32_bad O rb w none 0 0 true (by omega) h).mono (by rintro e w' ⟨rfl, g1, g2⟩; exact .bad rfl g1 g2 rfl)
  | some bs =>
    obtain ⟨a, cap, hB, h1, h2, h3, hM⟩ := h.parts
    rcases nil_or (bs := bs) 4 (by omega) with hs | ⟨hl, hne⟩
    · exact (rInt32_bad O rb w a bs.length cap false hs hB).mono (by rintro e w' ⟨rfl, g1, g2⟩; exact .bad (int_short hs) g1 g2 rfl)
    obtain ⟨b, o, rfl, hb, hc⟩ := h3 hne
    have ad := fun w' (hB' : Blk w' rb [.slice (some ⟨b, o, none⟩) bs.length cap, .bool false] 119) hc' (sv : Value) => Rdr.adv (O := O) (w := w') (o := o) (k := 4) (sv := sv) hM hO hB' h1 h2 hb hc' hl
    have hrd := int_long (k := 4) (m := 2147483648) hl
    obtain ⟨u0, u1, u2, u3, r, rfl⟩ : ∃ u0 u1 u2 u3 r, bs = u0 :: u1 :: u2 :: u3 :: r := match bs, hl with
    | [], h => absurd h (by simp)
    | [_], h => absurd h (by simp)
    | [_, _], h => absurd h (by simp)
    | [_, _, _], h => absurd h (by simp)
    | u0 :: u1 :: u2 :: u3 :: r, _ => ⟨_, _, _, _, _, rfl⟩
    have c0 := hc 0 u0 rfl
    have c1 := hc 1 u1 rfl
    have c2 := hc 2 u2 rfl
    have c3 := hc 3 u3 rfl
    have m0 := hB.cell_some (i := 0) rfl
    have f0 := hB.frozen 0
    have et : (u0 :: u1 :: u2 :: u3 :: r).take 4 = [u0, u1, u2, u3] := rfl
    rw [et] at hrd
    have eb : beNat [u0, u1, u2, u3] = Lib.beNat [u0, u1, u2, u3] := by simp [beNat, Lib.beNat, Lib.beFrom]
    rw [eb] at hrd
    rw [sg32] at hrd
    have BE := fun w' (hw : w'.heap = w.heap) => Tryd.binary_BE_Uint32 b o (u0 :: u1 :: u2 :: u3 :: r).length cap u0 u1 u2 u3 w' (by simp) (by rw [show w'.cell? _ = w.cell? _ from World.cell?_of_block (by rw [hw])]; exact c0) (by rw [show w'.cell? _ = w.cell? _ from World.cell?_of_block (by rw [hw])]; exact c1) (by rw [show w'.cell? _ = w.cell? _ from World.cell?_of_block (by rw [hw])]; exact c2) (by rw [show w'.cell? _ = w.cell? _ from World.cell?_of_block (by rw [hw])]; exact c3)
    have Z := Lib.hid (fun w' (hw : Below w.heap.size w w') sv hsv => ad w' (hB.below hw hB.lt) (fun i u hi => (hw.cell (p := ⟨b, o + i, none⟩) (World.block_lt_of_cell? w _ (hc i u hi))).trans (hc i u hi)) sv hsv)
    have HB := Lib.hid hB
    have BEh := Lib.hid BE
    have HRD := Lib.hid hrd
    have hlen := hl
    clear BE ad hB h hlt hc h3 hne eb hlen hM c0 c1 c2 c3
    generalize (u0 :: u1 :: u2 :: u3 :: r).length = n at *
    go_enter Tryd.func81, Tryd.ntmps81
    go_wp2_with fail
    go_region_held3 (fun w' => w'.cell? ⟨rb, 0, none⟩ = some (.slice (some ⟨b, o, none⟩) n cap)) (first | exact hS2 | exact m0)
      (first | (go_at_call 118; refine (BEh.out w.drew rfl).mono ?_; rintro e w2 ⟨rfl, hb2⟩; have hS2 := (HB.out.drew.below hb2 HB.out.lt).cell_some (i := 0) rfl))
    have hbw : Below w.heap.size w w2 := (Below.refl _ _).drew.trans hb2
    have hB2 := HB.out.below hbw HB.out.lt
    have m2 := hB2.cell_some (i := 0) rfl
    have f2 := hB2.frozen 0
    have Z2 := Lib.hid (Z.out w2 hbw)
    have KW := Lib.hid (Keeps.of_below (O := [rb]) hbw (Nat.le_refl _))
    clear hbw hB2 hb2 f0 m0 hS2
    go_wp2
    all_goals go_ret
    all_goals exact .good2 HRD.out KW.out (Z2.out _ (by first | exact .inl rfl | exact .inr ⟨by assumption, rfl⟩)) rfl
theorem rReadUint64_bad (O : List Nat) (rb : Nat) (w : World) (a : Option Addr) (n cap : Nat) (f : Bool) (hn : n < 8) (hB : Blk w rb [.slice a n cap, .bool f] 119) : Calls Tryd.prog 124 #[.pointer (some ⟨rb, 0, none⟩)] w fun e w' => e = .returned (.int .u64 0) ∧ Rdr O w' rb none ∧ Keeps [rb] w w' := by
  have m0 := hB.cell_some (i := 0) rfl
  have m1 := hB.cell_some (i := 1) rfl
  have f0 := hB.frozen 0
  have f1 := hB.frozen 1
  have Z := Lib.hid (Rdr.fail (O := O) (T := 0) hB)
  clear hB
  go_enter Tryd.func124, Tryd.ntmps124
  go_wp2
  go_ret
  exact ⟨rfl, Z.out⟩
set_option maxHeartbeats 2000000 in
theorem rReadUint64 : RdC Tryd.prog 124 (rdNat 8) (fun _ _ v n => v = .int .u64 n) (fun v => v = .int .u64 0) := by
  intro O rb w st hO hlt h
  cases st with
  | none => exact (rReadUint64_bad O rb w none 0 0 true (by omega) h).mono (by rintro e w' ⟨rfl, g1, g2⟩; exact .bad rfl g1 g2 rfl)
  | some bs =>
    obtain ⟨a, cap, hB, h1, h2, h3, hM⟩ := h.parts
    rcases nil_or (bs := bs) 8 (by omega) with hs | ⟨hl, hne⟩
    · exact (rReadUint64_bad O rb w a bs.length cap false hs hB).mono (by rintro e w' ⟨rfl, g1, g2⟩; exact .bad (nat_short hs) g1 g2 rfl)
    obtain ⟨b, o, rfl, hb, hc⟩ := h3 hne
    have ad := fun w' (hB' : Blk w' rb [.slice (some ⟨b, o, none⟩) bs.length cap, .bool false] 119) hc' (sv : Value) => Rdr.adv (O := O) (w := w') (o := o) (k := 8) (sv := sv) hM hO hB' h1 h2 hb hc' hl
    have hrd := nat_long (k := 8) hl
    obtain ⟨u0, u1, u2, u3, u4, u5, u6, u7, r, rfl⟩ : ∃ u0 u1 u2 u3 u4 u5 u6 u7 r, bs = u0 :: u1 :: u2 :: u3 :: u4 :: u5 :: u6 :: u7 :: r := match bs, hl with
    | [], h => absurd h (by simp)
    | [_], h => absurd h (by simp)
    | [_, _], h => absurd h (by simp)
    | [_, _, _], h => absurd h (by simp)
    | [_, _, _, _], h => absurd h (by simp)
    | [_, _, _, _, _], h => absurd h (by simp)
    | [_, _, _, _, _, _], h => absurd h (by simp)
    | [_, _, _, _, _, _, _], h => absurd h (by simp)
    | u0 :: u1 :: u2 :: u3 :: u4 :: u5 :: u6 :: u7 :: r, _ => ⟨_, _, _, _, _, _, _, _, _, rfl⟩
    have c0 := hc 0 u0 rfl
    have c1 := hc 1 u1 rfl
    have c2 := hc 2 u2 rfl
    have c3 := hc 3 u3 rfl
    have c4 := hc 4 u4 rfl
    have c5 := hc 5 u5 rfl
    have c6 := hc 6 u6 rfl
    have c7 := hc 7 u7 rfl
    have m0 := hB.cell_some (i := 0) rfl
    have f0 := hB.frozen 0
    have et : (u0 :: u1 :: u2 :: u3 :: u4 :: u5 :: u6 :: u7 :: r).take 8 = [u0, u1, u2, u3, u4, u5, u6, u7] := rfl
    rw [et] at hrd
    have eb : beNat [u0, u1, u2, u3, u4, u5, u6, u7] = Lib.beNat [u0, u1, u2, u3, u4, u5, u6, u7] := by simp [beNat, Lib.beNat, Lib.beFrom]
    rw [eb] at hrd
    have BE := fun w' (hw : w'.heap = w.heap) => Tryd.binary_BE_Uint64 b o (u0 :: u1 :: u2 :: u3 :: u4 :: u5 :: u6 :: u7 :: r).length cap u0 u1 u2 u3 u4 u5 u6 u7 w' (by simp) (by rw [show w'.cell? _ = w.cell? _ from World.cell?_of_block (by rw [hw])]; exact c0) (by rw [show w'.cell? _ = w.cell? _ from World.cell?_of_block (by rw [hw])]; exact c1) (by rw [show w'.cell? _ = w.cell? _ from World.cell?_of_block (by rw [hw])]; exact c2) (by rw [show w'.cell? _ = w.cell? _ from World.cell?_of_block (by rw [hw])]; exact c3) (by rw [show w'.cell? _ = w.cell? _ from World.cell?_of_block (by rw [hw])]; exact c4) (by rw [show w'.cell? _ = w.cell? _ from World.cell?_of_block (by rw [hw])]; exact c5) (by rw [show w'.cell? _ = w.cell? _ from World.cell?_of_block (by rw [hw])]; exact c6) (by rw [show w'.cell? _ = w.cell? _ from World.cell?_of_block (by rw [hw])]; exact c7)
    have Z := Lib.hid (fun w' (hw : Below w.heap.size w w') sv hsv => ad w' (hB.below hw hB.lt) (fun i u hi => (hw.cell (p := ⟨b, o + i, none⟩) (World.block_lt_of_cell? w _ (hc i u hi))).trans (hc i u hi)) sv hsv)
    have HB := Lib.hid hB
    have BEh := Lib.hid BE
    have HRD := Lib.hid hrd
    have hlen := hl
    clear BE ad hB h hlt hc h3 hne eb hlen hM c0 c1 c2 c3 c4 c5 c6 c7
    generalize (u0 :: u1 :: u2 :: u3 :: u4 :: u5 :: u6 :: u7 :: r).length = n at *
    go_enter Tryd.func124, Tryd.ntmps124
    go_wp2_with fail
    go_region_held3 (fun w' => w'.cell? ⟨rb, 0, none⟩ = some (.slice (some ⟨b, o, none⟩) n cap)) (first | exact hS2 | exact m0)
      (first | (go_at_call 131; refine (BEh.out w.drew rfl).mono ?_; rintro e w2 ⟨rfl, hb2⟩; have hS2 := (HB.out.drew.below hb2 HB.out.lt).cell_some (i := 0) rfl))
    have hbw : Below w.heap.size w w2 := (Below.refl _ _).drew.trans hb2
    have hB2 := HB.out.below hbw HB.out.lt
    have m2 := hB2.cell_some (i := 0) rfl
    have f2 := hB2.frozen 0
    have Z2 := Lib.hid (Z.out w2 hbw)
    have KW := Lib.hid (Keeps.of_below (O := [rb]) hbw (Nat.le_refl _))
    clear hbw hB2 hb2 f0 m0 hS2
    go_wp2
    all_goals go_ret
    all_goals exact .good2 HRD.out KW.out (Z2.out _ (by first | exact .inl rfl | exact .inr ⟨by assumption, rfl⟩)) rfl

theorem RB.dropG {O : List Nat} {w : World} {a : Option Addr} {cap k : Nat} {bs : List UInt8} (h : RB O w (.slice a bs.length cap) bs) (hk : k ≤ bs.length) {sv : Value}
    (hsv : sv = .slice (a.map fun x => x.add k) (bs.length - k) (cap - k) ∨ (cap = k ∧ sv = .slice a (bs.length - k) 0)) : RB O w sv (bs.drop k) := by
  obtain ⟨a', cap', e, h1, h2, h3⟩ := h
  cases e
  by_cases hne : bs = []
  · subst hne
    have : k = 0 := by simpa using hk
    subst this
    rcases hsv with rfl | ⟨rfl, rfl⟩
    · exact ⟨_, cap, rfl, by simp, h2, fun h => absurd rfl h⟩
    · exact ⟨_, 0, rfl, by simp, by omega, fun h => absurd rfl h⟩
  · obtain ⟨b, o, rfl, hb, hc⟩ := h3 hne
    refine RB.drop h1 h2 hb hc hk ?_
    rcases hsv with rfl | ⟨h4, rfl⟩
    · exact .inl (by simp [Addr.add])
    · exact .inr ⟨h4, rfl⟩
theorem RB.takeG {O : List Nat} {w : World} {a : Option Addr} {cap k : Nat} {bs : List UInt8} (h : RB O w (.slice a bs.length cap) bs) (hk : k ≤ bs.length) : RB O w (.slice a k k) (bs.take k) := by
  obtain ⟨a', cap', e, h1, h2, h3⟩ := h
  cases e
  refine ⟨a, k, by rw [List.length_take, Nat.min_eq_left hk], by rw [List.length_take]; omega, by omega, fun hne => ?_⟩
  have hb : bs ≠ [] := by rintro rfl; exact hne (by simp)
  obtain ⟨b, o, ha, hO, hc⟩ := h3 hb
  refine ⟨b, o, ha, hO, fun i u hi => hc i u ?_⟩
  rw [List.getElem?_take] at hi
  split at hi
  · exact hi
  · cases hi
theorem Rdr.advG {O : List Nat} {w : World} {rb cap k : Nat} {x : Value} {a : Option Addr} {bs : List UInt8} (hM : bs.length ≤ 2147483646) (hrb : rb ∈ O) (h : Blk w rb [x, .bool false] 119) (hr : RB O w (.slice a bs.length cap) bs) (hk : k ≤ bs.length) {sv : Value}
    (hsv : sv = .slice (a.map fun x => x.add k) (bs.length - k) (cap - k) ∨ (cap = k ∧ sv = .slice a (bs.length - k) 0)) :
    Rdr O (w.setCell ⟨rb, 0, none⟩ sv) rb (some (bs.drop k)) ∧ Keeps [rb] w (w.setCell ⟨rb, 0, none⟩ sv) := by
  have hk2 : Keeps [rb] w (w.setCell ⟨rb, 0, none⟩ sv) := (Keeps.refl [rb] w).setCell (List.mem_singleton.2 rfl) _
  exact ⟨⟨sv, h.set 0 sv, (hr.dropG hk hsv).keeps (hk2.mono fun k hk => by rw [List.mem_singleton.1 hk]; exact hrb), by rw [List.length_drop]; omega⟩, hk2⟩
def rdSpan (l : Int) : Pr (List UInt8) := if l < 0 then .fail else rdTake l.toNat
set_option maxHeartbeats 1000000 in
theorem rSpan_bad (O : List Nat) (rb : Nat) (w : World) (a : Option Addr) (n cap : Nat) (f : Bool) (l : Int) (hn : (n : Int) < l ∨ l < 0) (hB : Blk w rb [.slice a n cap, .bool f] 119) :
    Calls Tryd.prog 116 #[.pointer (some ⟨rb, 0, none⟩), .int .i64 l] w fun e w' => e = .returned (.slice none 0 0) ∧ Rdr O w' rb none ∧ Keeps [rb] w w' := by
  have m0 := hB.cell_some (i := 0) rfl
  have m1 := hB.cell_some (i := 1) rfl
  have f0 := hB.frozen 0
  have f1 := hB.frozen 1
  have Z := Lib.hid (Rdr.fail (O := O) (T := 0) hB)
  clear hB
  by_cases hx : (n : Int) < l
  · clear hn
    go_enter Tryd.func116, Tryd.ntmps116
    go_wp2
    go_ret
    exact ⟨rfl, Z.out⟩
  · have hl : l < 0 := by omega
    clear hn
    go_enter Tryd.func116, Tryd.ntmps116
    go_wp2
    go_ret
    exact ⟨rfl, Z.out⟩
inductive SpanOk (rb : Nat) (w : World) (a : Option Addr) (n cap : Nat) (l : Int) (e : Ending) (w' : World) : Prop
  | mk {sv : Value} (he : e = .returned (.slice a l.toNat l.toNat)) (hw : w' = w.setCell ⟨rb, 0, none⟩ sv) (hsv : sv = .slice (a.map fun x => x.add l.toNat) (n - l.toNat) (cap - l.toNat) ∨ (cap = l.toNat ∧ sv = .slice a (n - l.toNat) 0)) : SpanOk rb w a n cap l e w'
set_option maxHeartbeats 1000000 in
theorem rSpan_ok (rb : Nat) (w : World) (a : Option Addr) (n cap : Nat) (f : Bool) (l : Int) (h0 : 0 ≤ l) (hn : l ≤ n) (h1 : n ≤ cap) (h2 : cap ≤ 9223372036854775807) (hB : Blk w rb [.slice a n cap, .bool f] 119) :
    Calls Tryd.prog 116 #[.pointer (some ⟨rb, 0, none⟩), .int .i64 l] w (SpanOk rb w a n cap l) := by
  have m0 := hB.cell_some (i := 0) rfl
  have f0 := hB.frozen 0
  clear hB
  go_enter Tryd.func116, Tryd.ntmps116
  go_wp2
  all_goals go_ret
  all_goals refine SpanOk.mk rfl rfl ?_
  · exact .inr ⟨by first | rfl | assumption, rfl⟩
  · exact .inl rfl
theorem rSpan (O : List Nat) (rb : Nat) (w : World) (st : Option (List UInt8)) (l : Int) (hO : rb ∈ O) (hlt : ∀ k, k ∈ O → k < w.heap.size) (h : Rdr O w rb st) :
    Calls Tryd.prog 116 #[.pointer (some ⟨rb, 0, none⟩), .int .i64 l] w (RdPost (rdSpan l) (fun O w v s => RB O w v s) (fun v => v = .slice none 0 0) O rb w st) := by
  cases st with
  | none =>
    by_cases hl : l = 0
    · subst hl
      refine (rSpan_ok rb w none 0 0 true 0 (by omega) (by omega) (by omega) (by omega) h).mono ?_
      rintro e w' ⟨rfl, rfl, hsv⟩
      rename_i sv
      have e : sv = .slice none 0 0 := by rcases hsv with rfl | ⟨-, rfl⟩ <;> rfl
      subst e
      exact .bad rfl (Blk.set h 0 _) ((Keeps.refl [rb] w).setCell (List.mem_singleton.2 rfl) _) rfl
    · exact (rSpan_bad O rb w none 0 0 true l (by omega) h).mono (by rintro e w' ⟨rfl, g1, g2⟩; exact .bad rfl g1 g2 rfl)
  | some bs =>
    obtain ⟨sv, hB, hr, hM⟩ := h
    obtain ⟨a, cap, rfl, h1, h2, h3⟩ := id hr
    by_cases hl : (bs.length : Int) < l ∨ l < 0
    · refine (rSpan_bad O rb w a bs.length cap false l hl hB).mono ?_
      rintro e w' ⟨rfl, g1, g2⟩
      refine .bad ?_ g1 g2 rfl
      change rdSpan l bs = none
      unfold rdSpan
      split
      · rfl
      · exact take_short (by omega)
    · refine (rSpan_ok rb w a bs.length cap false l (by omega) (by omega) h1 h2 hB).mono ?_
      rintro e w' ⟨rfl, rfl, hsv⟩
      rename_i sv
      have e : rdSpan l bs = some (bs.take l.toNat, bs.drop l.toNat) := by
        unfold rdSpan
        rw [if_neg (by omega)]
        exact take_long (by omega)
      have hz := Rdr.advG hM hO hB hr (k := l.toNat) (by omega) hsv
      exact .good e hz ((hr.takeG (by omega)).keeps (hz.2.mono fun k hk => by rw [List.mem_singleton.1 hk]; exact hO))
end Go.Proofs.YtellhjpdpaeieaaDoor
