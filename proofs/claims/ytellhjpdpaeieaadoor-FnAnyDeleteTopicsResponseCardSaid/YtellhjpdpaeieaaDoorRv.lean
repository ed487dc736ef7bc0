/- The reader's numbers in groups of seven bits, texts, octets, counts. -/
import Derived.Test.YtellhjpdpaeieaaDoorRu
import Derived.Test.YtellhjpdpaeieaaDoorRdo
import Derived.Laws.BytesString
namespace Go.Proofs.YtellhjpdpaeieaaDoor
open Go Go.RowKit
set_option linter.unusedVariables false

theorem and8_lo {u : UInt8} (h : u.toNat < 128) : bits BinOp.and IntKind.u8 (u.toNat : Int) 128 = 0 := by
  rw [u8and128 _ u.toNat_lt, if_pos h]
theorem and8_hi {u : UInt8} (h : ¬ u.toNat < 128) : bits BinOp.and IntKind.u8 (u.toNat : Int) 128 = 128 := by
  rw [u8and128 _ u.toNat_lt, if_neg h]
theorem and8_7 (u : UInt8) : bits BinOp.and IntKind.u8 (u.toNat : Int) 127 = ((u.toNat % 128 : Nat) : Int) := u8and127 _ u.toNat_lt
set_option maxHeartbeats 1000000 in
theorem kUvarint (O : List Nat) (w : World) (v : Value) (bs : List UInt8) (h : RB O w v bs) : Calls Tryd.prog 125 #[v] w (UvOut bs w) := by
  obtain ⟨a, cap, rfl, h1, h2, h3⟩ := h
  by_cases hne : bs = []
  · subst hne
    exact uvL0 [] w a 0 cap (by omega) (by omega) rfl
  obtain ⟨b, o, rfl, -, hc⟩ := h3 hne
  cases bs with
  | nil => exact absurd rfl hne
  | cons u0 r0 =>
    by_cases h10 : u0.toNat < 128
    · exact uvS1 (u0 :: r0) w b o (u0 :: r0).length cap u0.toNat (u0.toNat % 128) (by simp; omega) rfl (hc 0 u0 rfl) (and8_7 u0) (and8_lo h10) (by omega) (by simp [rdUv, rdUvF, h10] <;> omega)
    · cases r0 with
      | nil => exact uvL1 [u0] w b o 1 cap u0.toNat (u0.toNat % 128) (by omega) (by omega) (hc 0 u0 rfl) (and8_7 u0) (and8_hi h10) (by simp [rdUv, rdUvF, h10])
      | cons u1 r1 =>
        by_cases h11 : u1.toNat < 128
        · exact uvS2 (u0 :: u1 :: r1) w b o (u0 :: u1 :: r1).length cap u0.toNat u1.toNat (u0.toNat % 128) (u1.toNat % 128) (by simp; omega) rfl (hc 0 u0 rfl) (hc 1 u1 rfl) (and8_7 u0) (and8_hi h10) (and8_7 u1) (and8_lo h11) (by omega) (by omega) (by simp [rdUv, rdUvF, h10, h11] <;> omega)
        · cases r1 with
          | nil => exact uvL2 [u0, u1] w b o 2 cap u0.toNat u1.toNat (u0.toNat % 128) (u1.toNat % 128) (by omega) (by omega) (hc 0 u0 rfl) (hc 1 u1 rfl) (and8_7 u0) (and8_hi h10) (and8_7 u1) (and8_hi h11) (by simp [rdUv, rdUvF, h10, h11])
          | cons u2 r2 =>
            by_cases h12 : u2.toNat < 128
            · exact uvS3 (u0 :: u1 :: u2 :: r2) w b o (u0 :: u1 :: u2 :: r2).length cap u0.toNat u1.toNat u2.toNat (u0.toNat % 128) (u1.toNat % 128) (u2.toNat % 128) (by simp; omega) rfl (hc 0 u0 rfl) (hc 1 u1 rfl) (hc 2 u2 rfl) (and8_7 u0) (and8_hi h10) (and8_7 u1) (and8_hi h11) (and8_7 u2) (and8_lo h12) (by omega) (by omega) (by omega) (by simp [rdUv, rdUvF, h10, h11, h12] <;> omega)
            · cases r2 with
              | nil => exact uvL3 [u0, u1, u2] w b o 3 cap u0.toNat u1.toNat u2.toNat (u0.toNat % 128) (u1.toNat % 128) (u2.toNat % 128) (by omega) (by omega) (hc 0 u0 rfl) (hc 1 u1 rfl) (hc 2 u2 rfl) (and8_7 u0) (and8_hi h10) (and8_7 u1) (and8_hi h11) (and8_7 u2) (and8_hi h12) (by simp [rdUv, rdUvF, h10, h11, h12])
              | cons u3 r3 =>
                by_cases h13 : u3.toNat < 128
                · exact uvS4 (u0 :: u1 :: u2 :: u3 :: r3) w b o (u0 :: u1 :: u2 :: u3 :: r3).length cap u0.toNat u1.toNat u2.toNat u3.toNat (u0.toNat % 128) (u1.toNat % 128) (u2.toNat % 128) (u3.toNat % 128) (by simp; omega) rfl (hc 0 u0 rfl) (hc 1 u1 rfl) (hc 2 u2 rfl) (hc 3 u3 rfl) (and8_7 u0) (and8_hi h10) (and8_7 u1) (and8_hi h11) (and8_7 u2) (and8_hi h12) (and8_7 u3) (and8_lo h13) (by omega) (by omega) (by omega) (by omega) (by simp [rdUv, rdUvF, h10, h11, h12, h13] <;> omega)
                · cases r3 with
                  | nil => exact uvL4 [u0, u1, u2, u3] w b o 4 cap u0.toNat u1.toNat u2.toNat u3.toNat (u0.toNat % 128) (u1.toNat % 128) (u2.toNat % 128) (u3.toNat % 128) (by omega) (by omega) (hc 0 u0 rfl) (hc 1 u1 rfl) (hc 2 u2 rfl) (hc 3 u3 rfl) (and8_7 u0) (and8_hi h10) (and8_7 u1) (and8_hi h11) (and8_7 u2) (and8_hi h12) (and8_7 u3) (and8_hi h13) (by simp [rdUv, rdUvF, h10, h11, h12, h13])
                  | cons u4 r4 =>
                    by_cases h14 : u4.toNat ≤ 15
                    · exact uvS5 (u0 :: u1 :: u2 :: u3 :: u4 :: r4) w b o (u0 :: u1 :: u2 :: u3 :: u4 :: r4).length cap u0.toNat u1.toNat u2.toNat u3.toNat u4.toNat (u0.toNat % 128) (u1.toNat % 128) (u2.toNat % 128) (u3.toNat % 128) (by simp; omega) rfl (hc 0 u0 rfl) (hc 1 u1 rfl) (hc 2 u2 rfl) (hc 3 u3 rfl) (hc 4 u4 rfl) (and8_7 u0) (and8_hi h10) (and8_7 u1) (and8_hi h11) (and8_7 u2) (and8_hi h12) (and8_7 u3) (and8_hi h13) (by omega) (by omega) (by omega) (by omega) (by omega) (by omega) (by simp [rdUv, rdUvF, h10, h11, h12, h13, h14] <;> omega)
                    · exact uvOver (u0 :: u1 :: u2 :: u3 :: u4 :: r4) w b o (u0 :: u1 :: u2 :: u3 :: u4 :: r4).length cap u0.toNat u1.toNat u2.toNat u3.toNat u4.toNat (u0.toNat % 128) (u1.toNat % 128) (u2.toNat % 128) (u3.toNat % 128) (by simp; omega) (hc 0 u0 rfl) (hc 1 u1 rfl) (hc 2 u2 rfl) (hc 3 u3 rfl) (hc 4 u4 rfl) (and8_7 u0) (and8_hi h10) (and8_7 u1) (and8_hi h11) (and8_7 u2) (and8_hi h12) (and8_7 u3) (and8_hi h13) (by omega) (by simp [rdUv, rdUvF, h10, h11, h12, h13, h14])

set_option maxHeartbeats 1000000 in
theorem rUvarint : RdC Tryd.prog 114 rdUv (fun _ _ v n => v = .int .u32 (n : Nat)) (fun v => v = .int .u32 0) := by
  intro O rb w st hO hlt h
  obtain ⟨bs, a, cap, f, hB, hr, hst⟩ : ∃ (bs : List UInt8) (a : Option Addr) (cap : Nat) (f : Bool), Blk w rb [.slice a bs.length cap, .bool f] 119 ∧ RB O w (.slice a bs.length cap) bs ∧ (st = some bs ∧ f = false ∧ bs.length ≤ 2147483646 ∨ (st = none ∧ bs = [])) := by
    cases st with
    | none => exact ⟨[], none, 0, true, h, RB.nil _ _, .inr ⟨rfl, rfl⟩⟩
    | some bs =>
      obtain ⟨sv, hB, hr, hM⟩ := h
      obtain ⟨a, cap, rfl, h1, h2, h3⟩ := id hr
      exact ⟨bs, a, cap, false, hB, hr, .inl ⟨rfl, rfl, hM⟩⟩
  have m0 := hB.cell_some (i := 0) rfl
  have f0 := hB.frozen 0
  have f1 := hB.frozen 1
  have m1 := hB.cell_some (i := 1) rfl
  have UV := Lib.hid (kUvarint O w _ bs hr)
  have Z := Lib.hid (And.intro hB (And.intro hr hst))
  obtain ⟨a', cap', e', hc1, hc2, -⟩ := id hr
  cases e'
  clear hB hr hst h hlt
  generalize hn : bs.length = n at *
  have N := Lib.hid hn
  clear hn
  go_enter Tryd.func114, Tryd.ntmps114
  go_wp2_with fail
  refine UV.out.mono ?_
  rintro e w' (⟨hk, hr, rfl, rfl⟩ | ⟨hk, hr, rfl, rfl⟩)
  · rename_i x k
    have hn := N.out
    rw [hn] at hk
    have k0 : (0 : Int) < k := by omega
    have k1 : (k : Int) ≤ n := by omega
    have HR := Lib.hid (And.intro hk hr)
    clear hr hk hn
    go_wp2
    all_goals go_ret
    all_goals
      obtain ⟨hB, hrb, hst⟩ := Z.out
      rcases hst with ⟨rfl, rfl, hM⟩ | ⟨rfl, rfl⟩
      · have hn := N.out
        subst hn
        exact .good HR.out.2 (Rdr.advG hM hO hB hrb (k := k) HR.out.1.2 (by first | exact .inl rfl | exact .inr ⟨by first | rfl | assumption, rfl⟩)) rfl
      · exact absurd HR.out.2 (by simp [rdUv, rdUvF])
  · rename_i k
    have HR := Lib.hid hr
    clear hr
    go_wp2
    go_ret
    obtain ⟨hB, hrb, hst⟩ := Z.out
    have hf := Rdr.fail (O := O) (T := 0) (N.out ▸ hB)
    refine .bad ?_ hf.1 hf.2 rfl
    rcases hst with ⟨rfl, rfl, hM⟩ | ⟨rfl, rfl⟩
    · exact HR.out
    · rfl
theorem fold_push (bs : List UInt8) : ∀ acc : ByteArray, (bs.map fun u => ((u.toNat : Nat) : Int)).foldl (fun r n => r.push (UInt8.ofNat n.toNat)) acc = ⟨acc.data ++ bs.toArray⟩ := by
  induction bs with
  | nil => intro acc; simp
  | cons u l ih =>
    intro acc
    simp only [List.map_cons, List.foldl_cons]
    rw [ih]
    congr 1
    simp [ByteArray.push]
theorem run_str {P : Program} {O : List Nat} {w : World} {v : Value} {bs : List UInt8} (h : RB O w v bs) : (Conv.bytesToString v).run P w = .ok (.string ⟨bs.toArray⟩) w := by
  obtain ⟨a, cap, rfl, h1, h2, h3⟩ := h
  have key : ∀ ad : Addr, (loadCells ad bs.length).run P w = .ok (bs.map byteV).toArray w → (Conv.bytesToString (.slice (some ad) bs.length cap)).run P w = .ok (.string ⟨bs.toArray⟩) w := by
    intro ad hl
    have hm : bs.map byteV = (bs.map fun u => ((u.toNat : Nat) : Int)).map (Value.int .u8) := by
      rw [List.map_map]
      rfl
    rw [hm] at hl
    rw [run_bytesToString w ad bs.length cap _ hl, fold_push]
    simp
  cases a with
  | none =>
    have hn : bs = [] := by
      by_cases hne : bs = []
      · exact hne
      · obtain ⟨b, o, hab, -⟩ := h3 hne
        cases hab
    subst hn
    simp [Conv.bytesToString]
    rfl
  | some ad =>
    by_cases hne : bs = []
    · subst hne
      exact key ad (run_loadCells_list (P := P) w ad [] (fun j v hj => by simp at hj))
    · obtain ⟨b, o, hab, -, hc⟩ := h3 hne
      cases hab
      refine key _ ?_
      have := run_loadCells_list (P := P) w ⟨b, o, none⟩ (bs.map byteV) (fun j v hj => by
        rw [List.getElem?_map] at hj
        cases hbj : bs[j]? with
        | none => simp [hbj] at hj
        | some c =>
          rw [hbj] at hj
          cases hj
          rw [Addr.add_lit]
          exact hc j c hbj)
      simpa using this
/-- Octets as a text. -/
theorem run_conv {O : List Nat} {w : World} {v : Value} {bs : List UInt8} (h : RB O w v bs) : (convert 22 9 v).run Tryd.prog w = .ok (.string ⟨bs.toArray⟩) w := by
  have h2 := run_str (P := Tryd.prog) h
  obtain ⟨a, cap, rfl, -, -, -⟩ := h
  rw [run_convert_bytes_string w _ _ 5 a _ cap Tryd.underlying22 Tryd.underlying5 Tryd.underlying9]
  exact h2
theorem hlt_on {O O' : List Nat} {w w1 : World} (hlt : ∀ k, k ∈ O → k < w.heap.size) (hk : Keeps O' w w1) : ∀ k, k ∈ O → k < w1.heap.size := fun k hk' => Nat.lt_of_lt_of_le (hlt k hk') hk.size
theorem int_bounds {k : Nat} {m n : Int} {st : Option (List UInt8)} {r : List UInt8} (hm : 0 < m) (h : st.bind (rdInt k m) = some (n, r)) : -m ≤ n ∧ n < m := by
  cases st with
  | none => cases h
  | some bs =>
    obtain ⟨l, r', h1, h2⟩ := bind_some (p := rdNat k) h
    simp only [Pr.pure, Option.some.injEq, Prod.mk.injEq] at h2
    obtain ⟨rfl, rfl⟩ := h2
    have h3 := Int.emod_nonneg ((l : Int) + m) (b := 2 * m) (by omega)
    have h4 := Int.emod_lt_of_pos ((l : Int) + m) (b := 2 * m) (by omega)
    constructor <;> (unfold sg; omega)
theorem bind_st {α β : Type} (st : Option (List UInt8)) (p : Pr α) (f : α → Pr β) : st.bind (p.bind f) = (st.bind p).bind fun q => f q.1 q.2 := by
  cases st with
  | none => rfl
  | some bs =>
    change p.bind f bs = (p bs).bind _
    unfold Pr.bind
    cases p bs with
    | none => rfl
    | some q => rfl
theorem span_out {O : List Nat} {w : World} {rb : Nat} {l : Int} {r r2 s : List UInt8} (h : Rdr O w rb (some r)) (hy : rdSpan l r = some (s, r2)) : s.length ≤ 2147483646 ∧ (s.length : Int) = l := by
  obtain ⟨sv, -, -, hM⟩ := h
  unfold rdSpan at hy
  split at hy
  · cases hy
  · unfold rdTake at hy
    split at hy
    · simp only [Option.some.injEq, Prod.mk.injEq] at hy
      obtain ⟨rfl, rfl⟩ := hy
      rw [List.length_take]
      omega
    · cases hy
theorem str_false : rdStr false = (rdInt 2 32768).bind fun n => (rdSpan n).bind fun s => .pure (.bytes s) := by
  unfold rdStr
  simp only [Bool.false_eq_true, if_false]
  congr 1
  funext n
  unfold rdSpan
  split
  · rfl
  · rfl
theorem str_true : rdStr true = rdUv.bind fun n => (rdSpan ((n : Int) - 1)).bind fun s => .pure (.bytes s) := by
  unfold rdStr
  simp only [if_true]
  congr 1
  funext n
  unfold rdSpan
  by_cases hn : n = 0
  · rw [if_pos hn, if_pos (by omega)]
    rfl
  · rw [if_neg hn, if_neg (by omega), show ((n : Int) - 1).toNat = n - 1 by omega]
set_option maxRecDepth 100000 in
set_option maxHeartbeats 1000000 in
theorem rString : RdC Tryd.prog 95 (rdStr false) (fun O w v g => LV O w false v .str g) (fun v => v = .string ⟨#[]⟩) := by
  intro O rb w st hO hlt h
  have C1 := Lib.hid (rInt16 O rb w st hO hlt h)
  clear h
  go_enter Tryd.func95, Tryd.ntmps95
  go_wp2_with fail
  refine C1.out.mono ?_
  rintro e w1 ⟨v, rfl, h1, hk1, hD, hV⟩
  clear C1
  rcases hx : st.bind (rdInt 2 32768) with _ | ⟨n, r⟩
  · obtain rfl := hD hx
    rw [hx] at h1
    have C2 := Lib.hid (rSpan O rb w1 none 0 hO (hlt_on hlt hk1) h1)
    have X := Lib.hid (And.intro hx hk1)
    clear hD hV h1 hx hlt hk1
    go_wp2_with fail
    refine C2.out.mono ?_
    rintro e w2 ⟨v, rfl, h2, hk2, hD, hV⟩
    obtain rfl := hD rfl
    have hcv := run_conv (RB.nil O w2)
    have Z := Lib.hid (And.intro h2 hk2)
    clear hD hV h2 hk2
    go_wp2
    go_ret
    refine .bad ?_ Z.out.1 (X.out.2.trans Z.out.2) rfl
    rw [str_false, bind_st, X.out.1]
    rfl
  · obtain rfl := hV _ _ hx
    rw [hx] at h1
    have C2 := Lib.hid (rSpan O rb w1 (some r) n hO (hlt_on hlt hk1) h1)
    have H1 := Lib.hid h1
    have hn := int_bounds (by omega) hx
    have X := Lib.hid (And.intro hx hk1)
    clear hD hV h1 hx hk1 hlt
    go_wp2_with fail
    refine C2.out.mono ?_
    rintro e w2 ⟨v, rfl, h2, hk2, hD, hV⟩
    rcases hy : rdSpan n r with _ | ⟨s, r2⟩
    · obtain rfl := hD hy
      have hcv := run_conv (RB.nil O w2)
      rw [show (some r).bind (rdSpan n) = none from hy] at h2
      have Z := Lib.hid (And.intro h2 (And.intro hk2 hy))
      clear hD hV h2 hk2 hy
      go_wp2
      go_ret
      refine .bad ?_ Z.out.1 (X.out.2.trans Z.out.2.1) rfl
      rw [str_false, bind_st, X.out.1]
      exact bind_none Z.out.2.2
    · have hcv := run_conv (hV _ _ hy)
      rw [show (some r).bind (rdSpan n) = some (s, r2) from hy] at h2
      have Z := Lib.hid (And.intro h2 (And.intro hk2 hy))
      clear hD hV h2 hk2 hy
      go_wp2
      go_ret
      have hst : st.bind (rdStr false) = some (.bytes s, r2) := by
        rw [str_false, bind_st, X.out.1]
        exact bind_eq Z.out.2.2
      obtain ⟨l1, l2⟩ := span_out H1.out Z.out.2.2
      refine ⟨_, rfl, by rw [hst]; exact Z.out.1, X.out.2.trans Z.out.2.1, fun h => by rw [hst] at h; (cases h), fun x r' h => ?_⟩
      rw [hst] at h
      cases h
      exact ⟨rfl, by simp [strMax]; omega⟩
set_option maxRecDepth 100000 in
set_option maxHeartbeats 1000000 in
theorem rCompactString : RdC Tryd.prog 94 (rdStr true) (fun O w v g => LV O w true v .str g) (fun v => v = .string ⟨#[]⟩) := by
  intro O rb w st hO hlt h
  have C1 := Lib.hid (rUvarint O rb w st hO hlt h)
  clear h
  go_enter Tryd.func94, Tryd.ntmps94
  go_wp2_with fail
  refine C1.out.mono ?_
  rintro e w1 ⟨v, rfl, h1, hk1, hD, hV⟩
  clear C1
  rcases hx : st.bind rdUv with _ | ⟨n, r⟩
  · obtain rfl := hD hx
    rw [hx] at h1
    have C2 := Lib.hid (rSpan O rb w1 none (-1) hO (hlt_on hlt hk1) h1)
    have X := Lib.hid (And.intro hx hk1)
    clear hD hV h1 hx hlt hk1
    go_wp2_with fail
    refine C2.out.mono ?_
    rintro e w2 ⟨v, rfl, h2, hk2, hD, hV⟩
    obtain rfl := hD rfl
    have hcv := run_conv (RB.nil O w2)
    have Z := Lib.hid (And.intro h2 hk2)
    clear hD hV h2 hk2
    go_wp2
    go_ret
    refine .bad ?_ Z.out.1 (X.out.2.trans Z.out.2) rfl
    rw [str_true, bind_st, X.out.1]
    rfl
  · obtain rfl := hV _ _ hx
    rw [hx] at h1
    have C2 := Lib.hid (rSpan O rb w1 (some r) ((n : Int) - 1) hO (hlt_on hlt hk1) h1)
    have H1 := Lib.hid h1
    have hn : n ≤ 4294967295 := by
      cases st with
      | none => cases hx
      | some bs => exact (out_uv hx).1
    have X := Lib.hid (And.intro hx hk1)
    clear hD hV h1 hx hk1 hlt
    go_wp2_with fail
    refine C2.out.mono ?_
    rintro e w2 ⟨v, rfl, h2, hk2, hD, hV⟩
    rcases hy : rdSpan ((n : Int) - 1) r with _ | ⟨s, r2⟩
    · obtain rfl := hD hy
      have hcv := run_conv (RB.nil O w2)
      rw [show (some r).bind (rdSpan ((n : Int) - 1)) = none from hy] at h2
      have Z := Lib.hid (And.intro h2 (And.intro hk2 hy))
      clear hD hV h2 hk2 hy
      go_wp2
      go_ret
      refine .bad ?_ Z.out.1 (X.out.2.trans Z.out.2.1) rfl
      rw [str_true, bind_st, X.out.1]
      exact bind_none Z.out.2.2
    · have hcv := run_conv (hV _ _ hy)
      rw [show (some r).bind (rdSpan ((n : Int) - 1)) = some (s, r2) from hy] at h2
      have Z := Lib.hid (And.intro h2 (And.intro hk2 hy))
      clear hD hV h2 hk2 hy
      go_wp2
      go_ret
      have hst : st.bind (rdStr true) = some (.bytes s, r2) := by
        rw [str_true, bind_st, X.out.1]
        exact bind_eq Z.out.2.2
      obtain ⟨l1, l2⟩ := span_out H1.out Z.out.2.2
      refine ⟨_, rfl, by rw [hst]; exact Z.out.1, X.out.2.trans Z.out.2.1, fun h => by rw [hst] at h; (cases h), fun x r' h => ?_⟩
      rw [hst] at h
      cases h
      exact ⟨rfl, by simp [strMax]; omega⟩
end Go.Proofs.YtellhjpdpaeieaaDoor
