/- The reader's texts that may be null, octets, counts, the end. -/
import Derived.Test.YtellhjpdpaeieaaDoorRv
namespace Go.Proofs.YtellhjpdpaeieaaDoor
open Go Go.RowKit
set_option linter.unusedVariables false

theorem nstr_false : rdNStr false = (rdInt 2 32768).bind fun n => if n < 0 then .pure .null else (rdSpan n).bind fun s => .pure (.bytes s) := by
  unfold rdNStr
  simp only [Bool.false_eq_true, if_false]
  congr 1
  funext n
  unfold rdSpan
  by_cases hn : n < 0
  · rw [if_pos hn, if_pos hn]
  · rw [if_neg hn, if_neg hn, if_neg hn]
theorem nstr_true : rdNStr true = rdUv.bind fun n => if (n : Int) - 1 < 0 then .pure .null else (rdSpan ((n : Int) - 1)).bind fun s => .pure (.bytes s) := by
  unfold rdNStr
  simp only [if_true]
  congr 1
  funext n
  unfold rdSpan
  by_cases hn : n = 0
  · rw [if_pos hn, if_pos (by omega)]
  · rw [if_neg hn, if_neg (by omega), if_neg (by omega), show ((n : Int) - 1).toNat = n - 1 by omega]
theorem bytes_false : rdBytes false = (rdInt 4 2147483648).bind fun n => if n = -1 then .pure (.bytes []) else (rdSpan n).bind fun s => .pure (.bytes s) := by
  unfold rdBytes
  simp only [Bool.false_eq_true, if_false]
  congr 1
  funext n
  unfold rdSpan
  by_cases hn : n = -1
  · rw [if_pos hn, if_pos hn]
  · rw [if_neg hn, if_neg hn]
    split
    · rfl
    · rfl
theorem bytes_true : rdBytes true = rdUv.bind fun n => if (n : Int) - 1 = -1 then .pure (.bytes []) else (rdSpan ((n : Int) - 1)).bind fun s => .pure (.bytes s) := by
  unfold rdBytes
  simp only [if_true]
  congr 1
  funext n
  unfold rdSpan
  by_cases hn : n = 0
  · rw [if_pos hn, if_pos (by omega)]
  · rw [if_neg hn, if_neg (by omega), if_neg (by omega), show ((n : Int) - 1).toNat = n - 1 by omega]
theorem Rdr.alloc {O : List Nat} {w : World} {rb : Nat} {st : Option (List UInt8)} (h : Rdr O w rb st) (o : Obj) : Rdr O (w.alloc o) rb st := h.other (O' := []) ((Keeps.refl [] w).alloc o) (by simp) (by simp)
theorem new_notin {O : List Nat} {w : World} (hlt : ∀ k, k ∈ O → k < w.heap.size) : w.heap.size ∉ O := fun h => Nat.lt_irrefl _ (hlt _ h)
set_option maxRecDepth 100000 in
set_option maxHeartbeats 1000000 in
theorem rNullableString : RdC Tryd.prog 103 (rdNStr false) (fun O w v g => LV O w false v .nstr g) (fun v => ∃ a, v = .pointer a) := by
  intro O rb w st hO hlt h
  have C1 := Lib.hid (rInt16 O rb w st hO hlt h)
  clear h
  go_enter Tryd.func103, Tryd.ntmps103
  go_wp2_with fail
  refine C1.out.mono ?_
  rintro e w1 ⟨v, rfl, h1, hk1, hD, hV⟩
  clear C1
  rcases hx : st.bind (rdInt 2 32768) with _ | ⟨n, r⟩
  · obtain rfl := hD hx
    rw [hx] at h1
    have C2 := Lib.hid (rSpan O rb w1 none 0 hO (hlt_on hlt hk1) h1)
    have X := Lib.hid (And.intro hx hk1)
    clear hD hV h1 hx hlt hk1
    go_wp2_with fail
    refine C2.out.mono ?_
    rintro e w2 ⟨v, rfl, h2, hk2, hD, hV⟩
    obtain rfl := hD rfl
    have hcv := run_conv (RB.nil O w2)
    have Z := Lib.hid (And.intro h2 hk2)
    clear hD hV h2 hk2
    go_wp2
    go_ret
    refine .bad ?_ (Z.out.1.alloc _) ((X.out.2.trans Z.out.2).alloc _) ⟨_, rfl⟩
    rw [nstr_false, bind_st, X.out.1]
    rfl
  · obtain rfl := hV _ _ hx
    rw [hx] at h1
    have hn := int_bounds (by omega) hx
    by_cases ht : n < 0
    · have X := Lib.hid (And.intro hx (And.intro hk1 h1))
      clear hD hV h1 hx hk1 hlt
      go_wp2
      go_ret
      have hst : st.bind (rdNStr false) = some (.null, r) := by
        rw [nstr_false, bind_st, X.out.1]
        change (if n < 0 then _ else _ : Pr GV) r = _
        rw [if_pos (by omega)]
        rfl
      refine ⟨_, rfl, by rw [hst]; exact X.out.2.2, X.out.2.1, fun h => by rw [hst] at h; (cases h), fun x r' h => ?_⟩
      rw [hst] at h
      cases h
      rfl
    · have C2 := Lib.hid (rSpan O rb w1 (some r) n hO (hlt_on hlt hk1) h1)
      have H1 := Lib.hid h1
      have X := Lib.hid (And.intro hx (And.intro hk1 hlt))
      clear hD hV h1 hx hk1 hlt
      go_wp2_with fail
      refine C2.out.mono ?_
      rintro e w2 ⟨v, rfl, h2, hk2, hD, hV⟩
      rcases hy : rdSpan n r with _ | ⟨s, r2⟩
      · obtain rfl := hD hy
        have hcv := run_conv (RB.nil O w2)
        rw [show (some r).bind (rdSpan n) = none from hy] at h2
        have Z := Lib.hid (And.intro h2 (And.intro hk2 hy))
        clear hD hV h2 hk2 hy
        go_wp2
        go_ret
        refine .bad ?_ (Z.out.1.alloc _) ((X.out.2.1.trans Z.out.2.1).alloc _) ⟨_, rfl⟩
        rw [nstr_false, bind_st, X.out.1]
        change (if n < 0 then _ else _ : Pr GV) r = _
        rw [if_neg (by omega)]
        exact bind_none Z.out.2.2
      · have hlt2 := hlt_on (hlt_on X.out.2.2 X.out.2.1) hk2
        have hcv := run_conv (hV _ _ hy)
        rw [show (some r).bind (rdSpan n) = some (s, r2) from hy] at h2
        have Z := Lib.hid (And.intro h2 (And.intro hk2 (And.intro hy hlt2)))
        clear hD hV h2 hk2 hy hlt2
        go_wp2
        go_ret
        have hst : st.bind (rdNStr false) = some (.bytes s, r2) := by
          rw [nstr_false, bind_st, X.out.1]
          change (if n < 0 then _ else _ : Pr GV) r = _
          rw [if_neg (by omega)]
          exact bind_eq Z.out.2.2.1
        obtain ⟨l1, l2⟩ := span_out H1.out Z.out.2.2.1
        refine ⟨_, rfl, by rw [hst]; exact Z.out.1.alloc _, (X.out.2.1.trans Z.out.2.1).alloc _, fun h => by rw [hst] at h; (cases h), fun x r' h => ?_⟩
        rw [hst] at h
        cases h
        exact ⟨⟨w2.heap.size, 0, rfl, new_notin Z.out.2.2.2, (Blk.alloc_new w2 [_] _).cell_some (i := 0) rfl⟩, by simp [strMax]; omega⟩
set_option maxRecDepth 100000 in
set_option maxHeartbeats 1000000 in
theorem rCompactNullableString : RdC Tryd.prog 101 (rdNStr true) (fun O w v g => LV O w true v .nstr g) (fun v => ∃ a, v = .pointer a) := by
  intro O rb w st hO hlt h
  have C1 := Lib.hid (rUvarint O rb w st hO hlt h)
  clear h
  go_enter Tryd.func101, Tryd.ntmps101
  go_wp2_with fail
  refine C1.out.mono ?_
  rintro e w1 ⟨v, rfl, h1, hk1, hD, hV⟩
  clear C1
  rcases hx : st.bind rdUv with _ | ⟨n, r⟩
  · obtain rfl := hD hx
    rw [hx] at h1
    have X := Lib.hid (And.intro hx (And.intro hk1 h1))
    clear hD hV h1 hx hlt hk1
    go_wp2
    go_ret
    refine .bad ?_ X.out.2.2 X.out.2.1 ⟨_, rfl⟩
    rw [nstr_true, bind_st, X.out.1]
    rfl
  · obtain rfl := hV _ _ hx
    rw [hx] at h1
    have hn : n ≤ 4294967295 := by
      cases st with
      | none => cases hx
      | some bs => exact (out_uv hx).1
    by_cases ht : ((n : Int) - 1) < 0
    · have X := Lib.hid (And.intro hx (And.intro hk1 h1))
      clear hD hV h1 hx hk1 hlt
      go_wp2
      go_ret
      have hst : st.bind (rdNStr true) = some (.null, r) := by
        rw [nstr_true, bind_st, X.out.1]
        change (if ((n : Int) - 1) < 0 then _ else _ : Pr GV) r = _
        rw [if_pos (by omega)]
        rfl
      refine ⟨_, rfl, by rw [hst]; exact X.out.2.2, X.out.2.1, fun h => by rw [hst] at h; (cases h), fun x r' h => ?_⟩
      rw [hst] at h
      cases h
      rfl
    · have C2 := Lib.hid (rSpan O rb w1 (some r) ((n : Int) - 1) hO (hlt_on hlt hk1) h1)
      have H1 := Lib.hid h1
      have X := Lib.hid (And.intro hx (And.intro hk1 hlt))
      clear hD hV h1 hx hk1 hlt
      go_wp2_with fail
      refine C2.out.mono ?_
      rintro e w2 ⟨v, rfl, h2, hk2, hD, hV⟩
      rcases hy : rdSpan ((n : Int) - 1) r with _ | ⟨s, r2⟩
      · obtain rfl := hD hy
        have hcv := run_conv (RB.nil O w2)
        rw [show (some r).bind (rdSpan ((n : Int) - 1)) = none from hy] at h2
        have Z := Lib.hid (And.intro h2 (And.intro hk2 hy))
        clear hD hV h2 hk2 hy
        go_wp2
        go_ret
        refine .bad ?_ (Z.out.1.alloc _) ((X.out.2.1.trans Z.out.2.1).alloc _) ⟨_, rfl⟩
        rw [nstr_true, bind_st, X.out.1]
        change (if ((n : Int) - 1) < 0 then _ else _ : Pr GV) r = _
        rw [if_neg (by omega)]
        exact bind_none Z.out.2.2
      · have hlt2 := hlt_on (hlt_on X.out.2.2 X.out.2.1) hk2
        have hcv := run_conv (hV _ _ hy)
        rw [show (some r).bind (rdSpan ((n : Int) - 1)) = some (s, r2) from hy] at h2
        have Z := Lib.hid (And.intro h2 (And.intro hk2 (And.intro hy hlt2)))
        clear hD hV h2 hk2 hy hlt2
        go_wp2
        go_ret
        have hst : st.bind (rdNStr true) = some (.bytes s, r2) := by
          rw [nstr_true, bind_st, X.out.1]
          change (if ((n : Int) - 1) < 0 then _ else _ : Pr GV) r = _
          rw [if_neg (by omega)]
          exact bind_eq Z.out.2.2.1
        obtain ⟨l1, l2⟩ := span_out H1.out Z.out.2.2.1
        refine ⟨_, rfl, by rw [hst]; exact Z.out.1.alloc _, (X.out.2.1.trans Z.out.2.1).alloc _, fun h => by rw [hst] at h; (cases h), fun x r' h => ?_⟩
        rw [hst] at h
        cases h
        exact ⟨⟨w2.heap.size, 0, rfl, new_notin Z.out.2.2.2, (Blk.alloc_new w2 [_] _).cell_some (i := 0) rfl⟩, by simp [strMax]; omega⟩

theorem sgw64 (n : Int) : sg 9223372036854775808 n = Go.RowKit.wrap64 n := by
  unfold sg Go.RowKit.wrap64
  omega
set_option maxHeartbeats 1000000 in
theorem rInt64 : RdC Tryd.prog 113 (rdInt 8 9223372036854775808) (fun _ _ v n => v = .int .i64 n) (fun v => v = .int .i64 0) := by
  intro O rb w st hO hlt h
  have C1 := Lib.hid (rReadUint64 O rb w st hO hlt h)
  clear h
  go_enter Tryd.func113, Tryd.ntmps113
  go_wp2_with fail
  refine C1.out.mono ?_
  rintro e w1 ⟨v, rfl, h1, hk1, hD, hV⟩
  clear C1
  have e0 : st.bind (rdInt 8 9223372036854775808) = (st.bind (rdNat 8)).bind fun q => some (sg 9223372036854775808 q.1, q.2) := bind_st st (rdNat 8) _
  rcases hx : st.bind (rdNat 8) with _ | ⟨n, r⟩
  · obtain rfl := hD hx
    rw [hx] at h1 e0
    have X := Lib.hid (And.intro e0 (And.intro hk1 h1))
    clear hD hV h1 hx hlt hk1 e0
    go_wp2
    go_ret
    exact .bad X.out.1 X.out.2.2 X.out.2.1 rfl
  · obtain rfl := hV _ _ hx
    rw [hx] at h1 e0
    have X := Lib.hid (And.intro e0 (And.intro hk1 h1))
    clear hD hV h1 hx hlt hk1 e0
    go_wp2
    go_ret
    have hst : st.bind (rdInt 8 9223372036854775808) = some (sg 9223372036854775808 n, r) := X.out.1
    refine ⟨_, rfl, by rw [hst]; exact X.out.2.2, X.out.2.1, fun h => by rw [hst] at h; (cases h), fun x r' h => ?_⟩
    rw [hst] at h
    simp only [Option.some.injEq, Prod.mk.injEq] at h
    obtain ⟨rfl, rfl⟩ := h
    exact congrArg (Value.int .i64) (sgw64 n).symm
theorem sgw32 (n : Int) : sg 2147483648 n = Go.RowKit.wrap32 n := by
  unfold sg Go.RowKit.wrap32
  omega
theorem count_true : rdCount true = rdUv.bind fun n => .pure (Go.RowKit.wrap32 (Go.RowKit.wrap32 (n : Nat) - 1)) := by
  have h : rdCount true = rdUv.bind fun n : Nat => Pr.pure (sg 2147483648 (sg 2147483648 n - 1)) := if_pos rfl
  rw [h]
  exact congrArg (Pr.bind rdUv) (funext fun n => by rw [sgw32, sgw32])
theorem count_len (flex : Bool) (st : Option (List UInt8)) : st.bind (rdLen flex) = (st.bind (rdCount flex)).bind fun q => if (q.2.length : Int) < q.1 then none else some q := bind_st st (rdCount flex) _
set_option maxRecDepth 100000 in
set_option maxHeartbeats 1000000 in
theorem rArrayLen : RdC Tryd.prog 89 (rdLen false) (fun _ _ v n => v = .int .i32 n) (fun v => ∃ n, v = .int .i32 n) := by
  intro O rb w st hO hlt h
  have C1 := Lib.hid (rInt32 O rb w st hO hlt h)
  clear h
  go_enter Tryd.func89, Tryd.ntmps89
  go_wp2_with fail
  refine C1.out.mono ?_
  rintro e w1 ⟨v, rfl, h1, hk1, hD, hV⟩
  clear C1
  have ec : st.bind (rdCount false) = (st.bind (rdInt 4 2147483648)).bind fun q => some (q.1, q.2) := by
    unfold rdCount; simp only [Bool.false_eq_true, if_false]; cases st.bind (rdInt 4 2147483648) <;> rfl
  have e0 := count_len false st
  rw [ec] at e0
  rcases hx : st.bind (rdInt 4 2147483648) with _ | ⟨n, r⟩
  · obtain rfl := hD hx
    rw [hx] at h1 e0
    have hB : Blk w1 rb [.slice none 0 0, .bool true] 119 := h1
    have m0 := hB.cell_some (i := 0) rfl
    have X := Lib.hid (And.intro e0 (And.intro hk1 h1))
    clear hD hV h1 hx hlt hk1 e0 hB ec
    go_wp2
    go_ret
    exact .bad X.out.1 X.out.2.2 X.out.2.1 ⟨_, rfl⟩
  · obtain rfl := hV _ _ hx
    rw [hx] at h1 e0
    obtain ⟨sv, hB, ⟨a, cap, rfl, c1, c2, -⟩, hM⟩ := id h1
    have m0 := hB.cell_some (i := 0) rfl
    have m1 := hB.cell_some (i := 1) rfl
    have f0 := hB.frozen 0
    have f1 := hB.frozen 1
    have hv := int_bounds (by omega) hx
    change _ = if (r.length : Int) < n then none else some (n, r) at e0
    have F := Lib.hid (Rdr.fail (O := O) (T := 0) hB)
    by_cases ht : (r.length : Int) < n
    · rw [if_pos ht] at e0
      have X := Lib.hid (And.intro e0 (And.intro hk1 h1))
      clear hD hV h1 hx hlt hk1 e0 hB ec
      generalize r.length = k at *
      go_wp2
      go_ret
      exact .bad X.out.1 F.out.1 (X.out.2.1.trans F.out.2) ⟨_, rfl⟩
    · rw [if_neg ht] at e0
      have X := Lib.hid (And.intro e0 (And.intro hk1 h1))
      clear hD hV h1 hx hlt hk1 e0 hB ec F
      generalize r.length = k at *
      go_wp2
      go_ret
      have hst := X.out.1
      refine ⟨_, rfl, by rw [hst]; exact X.out.2.2, X.out.2.1, fun h => by rw [hst] at h; (cases h), fun x r' h => ?_⟩
      rw [hst] at h
      simp only [Option.some.injEq, Prod.mk.injEq] at h
      obtain ⟨rfl, rfl⟩ := h
      rfl
set_option maxRecDepth 100000 in
set_option maxHeartbeats 1000000 in
theorem rCompactArrayLen : RdC Tryd.prog 88 (rdLen true) (fun _ _ v n => v = .int .i32 n) (fun v => ∃ n, v = .int .i32 n) := by
  intro O rb w st hO hlt h
  have C1 := Lib.hid (rUvarint O rb w st hO hlt h)
  clear h
  go_enter Tryd.func88, Tryd.ntmps88
  go_wp2_with fail
  refine C1.out.mono ?_
  rintro e w1 ⟨v, rfl, h1, hk1, hD, hV⟩
  clear C1
  have ec : st.bind (rdCount true) = (st.bind rdUv).bind fun q => some ((Go.RowKit.wrap32 (Go.RowKit.wrap32 (q.1 : Nat) - 1)), q.2) := by
    rw [count_true]; exact bind_st st rdUv _
  have e0 := count_len true st
  rw [ec] at e0
  rcases hx : st.bind rdUv with _ | ⟨n, r⟩
  · obtain rfl := hD hx
    rw [hx] at h1 e0
    have hB : Blk w1 rb [.slice none 0 0, .bool true] 119 := h1
    have m0 := hB.cell_some (i := 0) rfl
    have X := Lib.hid (And.intro e0 (And.intro hk1 h1))
    clear hD hV h1 hx hlt hk1 e0 hB ec
    go_wp2
    go_ret
    exact .bad X.out.1 X.out.2.2 X.out.2.1 ⟨_, rfl⟩
  · obtain rfl := hV _ _ hx
    rw [hx] at h1 e0
    obtain ⟨sv, hB, ⟨a, cap, rfl, c1, c2, -⟩, hM⟩ := id h1
    have m0 := hB.cell_some (i := 0) rfl
    have m1 := hB.cell_some (i := 1) rfl
    have f0 := hB.frozen 0
    have f1 := hB.frozen 1
    have hn : n ≤ 4294967295 := by
      cases st with
      | none => cases hx
      | some bs => exact (out_uv hx).1
    have hv : -2147483648 ≤ Go.RowKit.wrap32 (Go.RowKit.wrap32 ((n : Nat) : Int) - 1) ∧ Go.RowKit.wrap32 (Go.RowKit.wrap32 ((n : Nat) : Int) - 1) < 2147483648 := by unfold Go.RowKit.wrap32; omega
    have hw : Go.RowKit.wrap64 (Go.RowKit.wrap32 (Go.RowKit.wrap32 ((n : Nat) : Int) - 1)) = Go.RowKit.wrap32 (Go.RowKit.wrap32 ((n : Nat) : Int) - 1) := by unfold Go.RowKit.wrap64; omega
    rw [Option.bind_some, Option.bind_some] at e0
    obtain ⟨m, hm⟩ : ∃ m, Go.RowKit.wrap32 (Go.RowKit.wrap32 ((n : Nat) : Int) - 1) = m := ⟨_, rfl⟩
    simp only [hm] at e0 hv hw
    have F := Lib.hid (Rdr.fail (O := O) (T := 0) hB)
    by_cases ht : (r.length : Int) < m
    · rw [if_pos ht] at e0
      have X := Lib.hid (And.intro e0 (And.intro hk1 h1))
      clear hD hV h1 hx hlt hk1 e0 hB ec
      generalize r.length = k at *
      go_wp2
      go_ret
      exact .bad X.out.1 F.out.1 (X.out.2.1.trans F.out.2) ⟨_, rfl⟩
    · rw [if_neg ht] at e0
      have X := Lib.hid (And.intro e0 (And.intro hk1 h1))
      clear hD hV h1 hx hlt hk1 e0 hB ec F
      generalize r.length = k at *
      go_wp2
      go_ret
      have hst := X.out.1
      refine ⟨_, rfl, by rw [hst]; exact X.out.2.2, X.out.2.1, fun h => by rw [hst] at h; (cases h), fun x r' h => ?_⟩
      rw [hst] at h
      simp only [Option.some.injEq, Prod.mk.injEq] at h
      obtain ⟨rfl, rfl⟩ := h
      exact congrArg (Value.int .i32) hm
set_option maxHeartbeats 1000000 in
theorem rOk (O : List Nat) (rb : Nat) (w : World) (st : Option (List UInt8)) (h : Rdr O w rb st) : Calls Tryd.prog 90 #[.pointer (some ⟨rb, 0, none⟩)] w fun e w' => e = .returned (.bool st.isSome) ∧ w = w' := by
  obtain ⟨sv, hB⟩ := h.blk
  have m1 := hB.cell_some (i := 1) rfl
  clear hB h
  cases st <;>
  · go_enter Tryd.func90, Tryd.ntmps90
    go_wp2
    go_ret
    exact ⟨rfl, rfl⟩
set_option maxHeartbeats 1000000 in
theorem rComplete (O : List Nat) (rb : Nat) (w : World) (st : Option (List UInt8)) (E : Value) (h : Rdr O w rb st) (hE : w.cell? ⟨1, 0, none⟩ = some E) : Calls Tryd.prog 83 #[.pointer (some ⟨rb, 0, none⟩)] w fun e w' => e = .returned (if st.isSome then .nilIface else E) ∧ w = w' := by
  obtain ⟨sv, hB⟩ := h.blk
  have m1 := hB.cell_some (i := 1) rfl
  clear hB h
  cases st <;>
  · go_enter Tryd.func83, Tryd.ntmps83
    go_wp2
    go_ret
    exact ⟨rfl, rfl⟩
end Go.Proofs.YtellhjpdpaeieaaDoor
