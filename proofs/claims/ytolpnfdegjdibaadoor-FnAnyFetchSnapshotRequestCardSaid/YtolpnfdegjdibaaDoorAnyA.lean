/- What is read as a FetchSnapshotRequest is written, read again, written as the same. Printed by anygen.py. -/
import Derived.Test.YtolpnfdegjdibaaDoorMf
import Derived.Test.YtolpnfdegjdibaaDoorReadA
namespace Go.Proofs.YtolpnfdegjdibaaDoor.anyFetchSnapshotRequest
open Go Go.RowKit
set_option linter.unusedVariables false
set_option maxHeartbeats 800000 in
theorem newPtr (w : World) : Calls Tryd.prog 8 #[] w fun e w' => e = .returned (.pointer (some ⟨w.heap.size, 0, none⟩)) ∧ w' = w.alloc (.cells [.int .i16 0, .pointer none, .int .i32 (-1), .int .i32 2147483647, .slice none 0 0, .map none].toArray 44) := by
  go_enter Tryd.func8, Tryd.ntmps8
  go_wp2
  go_end0
  go_wp2
  go_ret
  exact ⟨rfl, rfl⟩
set_option maxHeartbeats 800000 in
theorem setV (w : World) (b : Nat) (x : Value) (c : List Value) (v : Int) (h : Blk w b (x :: c) 44) : Calls Tryd.prog 10 #[.pointer (some ⟨b, 0, none⟩), .int .i16 v] w fun e w' => e = .returned (.tuple #[]) ∧ w' = w.setCell ⟨b, 0, none⟩ (.int .i16 v) := by
  have m := h.cell_some (i := 0) rfl
  have f := h.frozen 0
  go_enter Tryd.func10, Tryd.ntmps10
  go_wp2
  go_end0
  exact ⟨rfl, rfl⟩
theorem hasV0 {ver : Int} (h : 0 ≤ ver) : hasV 0 none ver = true := by simp [hasV, h]
theorem ok (ver : Int) (h0 : 0 ≤ ver) (h1 : ver ≤ 1) : okS ver (hasV 0 none ver) schFetchSnapshotRequest = true := by
  have h : ver = 0 ∨ ver = 1 := by omega
  rcases h with rfl | rfl
  all_goals decide +kernel
theorem fresh (ver : Int) : Fresh [.int .i16 ver, .pointer none, .int .i32 (-1), .int .i32 2147483647, .slice none 0 0, .map none] 0 schFetchSnapshotRequest := by
  unfold schFetchSnapshotRequest
  simp only [Fresh]
  (repeat' apply And.intro) <;> first | rfl | trivial | exact Nat.le_of_ble_eq_true rfl | exact freshD_of rfl
set_option maxHeartbeats 800000 in
theorem maxMsg (w : World) : Calls Tryd.prog 4 #[] w fun e w' => e = .returned (.int .i64 1) ∧ Below w.heap.size w w' := by
  go_enter Tryd.func4, Tryd.ntmps4
  go_wp2_with fail
  refine (newPtr _).mono ?_
  rintro e w1 ⟨rfl, rfl⟩
  have hb := Lib.hid ((Below.refl w.heap.size w).alloc (Nat.le_refl _) (.cells [.int .i16 0, .pointer none, .int .i32 (-1), .int .i32 2147483647, .slice none 0 0, .map none].toArray 44))
  go_wp2
  go_ret
  exact ⟨rfl, hb.out⟩
set_option maxHeartbeats 1600000 in
theorem readF (E : Value) (tE : TypeId) (vE : Value) (hEi : E = .iface tE vE) (w : World) (ver : Int) (h0 : 0 ≤ ver) (b : Nat) (src : Value) (bs : List UInt8) (hB : Blk w b [.int .i16 ver, .pointer none, .int .i32 (-1), .int .i32 2147483647, .slice none 0 0, .map none] 44) (hs : RB [b] w src bs) (hbs : bs.length ≤ lim) (hE : w.cell? ⟨1, 0, none⟩ = some E) (hgE : 1 ≠ b) :
    Calls Tryd.prog 11 #[.pointer (some ⟨b, 0, none⟩), src] w (ReadPost TagMem E ver (hasV 0 none ver) schFetchSnapshotRequest b 0 0 bs w) := by
  have C := Lib.hid (readFetchSnapshotRequest E tE vE hEi w ver (hasV0 h0) b 0 44 [.int .i16 ver, .pointer none, .int .i32 (-1), .int .i32 2147483647, .slice none 0 0, .map none] src bs hB (fresh ver) (hB.cell_some rfl) hs hbs hE hgE)
  obtain ⟨sa, sc, rfl, -⟩ : ∃ a cap, src = .slice a bs.length cap ∧ True := by obtain ⟨a, cap, h, -⟩ := hs; exact ⟨a, cap, h, trivial⟩
  clear hB hs hbs hE
  go_enter Tryd.func11, Tryd.ntmps11
  go_wp2_with fail
  refine C.out.mono ?_
  intro e w' hp
  obtain ⟨v, rfl⟩ : ∃ v, e = .returned v := ⟨_, hp.1⟩
  have HP := Lib.hid hp
  clear hp C
  go_wp2
  go_ret
  exact HP.out
set_option maxRecDepth 100000 in
set_option maxHeartbeats 3200000 in
theorem again (ver : Int) (h0 : 0 ≤ ver) (h1 : ver ≤ 1) (tE : TypeId) (vE : Value) (w : World) (src : Value) (bs : List UInt8) (hs : RB [] w src bs) (hbs : bs.length ≤ 1000) (hE : w.cell? ⟨1, 0, none⟩ = some (.iface tE vE)) :
    Calls Tryd.prog 5 #[.int .i64 ver, src] w (AgainPost ver (hasV 0 none ver) schFetchSnapshotRequest bs w) := by
  have hw : (ver + 32768) % 65536 - 32768 = ver := by omega
  obtain ⟨sa, sc, rfl, -⟩ : ∃ a cap, src = .slice a bs.length cap ∧ True := by obtain ⟨a, cap, h, -⟩ := hs; exact ⟨a, cap, h, trivial⟩
  have hgl := World.block_lt_of_cell? w _ hE
  have H := Lib.hid (And.intro hs (And.intro hbs (And.intro hE hgl)))
  clear hs hbs hE hgl
  go_enter Tryd.func5, Tryd.ntmps5
  go_wp2_with fail
  refine (newPtr _).mono ?_
  rintro e w1 ⟨rfl, rfl⟩
  have hB0 := Blk.alloc_new w [.int .i16 0, .pointer none, .int .i32 (-1), .int .i32 2147483647, .slice none 0 0, .map none] 44
  go_wp2_with fail
  refine (setV _ _ _ _ ver hB0).mono ?_
  rintro e w2 ⟨rfl, rfl⟩
  have hB : Blk ((w.alloc (.cells [.int .i16 0, .pointer none, .int .i32 (-1), .int .i32 2147483647, .slice none 0 0, .map none].toArray 44)).setCell ⟨w.heap.size, 0, none⟩ (.int .i16 ver)) w.heap.size [.int .i16 ver, .pointer none, .int .i32 (-1), .int .i32 2147483647, .slice none 0 0, .map none] 44 := hB0.set 0 (.int .i16 ver)
  have hbel := ((Below.refl w.heap.size w).alloc (Nat.le_refl _) (.cells [.int .i16 0, .pointer none, .int .i32 (-1), .int .i32 2147483647, .slice none 0 0, .map none].toArray 44)).setCell (p := ⟨w.heap.size, 0, none⟩) (Nat.le_refl _) (.int .i16 ver)
  generalize (w.alloc (.cells [.int .i16 0, .pointer none, .int .i32 (-1), .int .i32 2147483647, .slice none 0 0, .map none].toArray 44)).setCell ⟨w.heap.size, 0, none⟩ (.int .i16 ver) = w2 at *
  have Z := Lib.hid (And.intro hB hbel)
  clear hB hbel hB0
  go_wp2_with (at_builtin; refine halted ?_)
  refine wpl_append_from bt rfl _ _ rfl (w.heap.size + 1) [] (World.ownsRow_nil ..) (by have := Z.out.1.lt; omega) bs (Src.ofRB Tryd.underlying22 (H.out.1.keeps (Keeps.of_below Z.out.2 (Nat.le_refl _)))) (by have := H.out.2.1; unfold lim; simp; omega) ?_
  intro v3 w3 hown3 hbel3
  rw [List.nil_append] at hown3
  obtain ⟨ya, yc, hv3⟩ := own_shape hown3
  have hB3 : Blk w3 w.heap.size [.int .i16 ver, .pointer none, .int .i32 (-1), .int .i32 2147483647, .slice none 0 0, .map none] 44 := Z.out.1.below hbel3 (by omega)
  have hE3 : w3.cell? ⟨1, 0, none⟩ = some (.iface tE vE) := ((Z.out.2.trans (hbel3.mono (by omega))).cell (p := ⟨1, 0, none⟩) H.out.2.2.2).trans H.out.2.2.1
  have C := Lib.hid (readF (.iface tE vE) tE vE rfl w3 ver h0 w.heap.size v3 bs hB3 (hown3.rb [w.heap.size] (by simp)) (by have := H.out.2.1; unfold lim; omega) hE3 (by have := H.out.2.2.2; omega))
  have Y := Lib.hid (And.intro hbel3 hB3)
  generalize bs.length = yn at hv3
  subst hv3
  clear hown3 hbel3 hB3 hE3
  go_wp2_with fail
  refine C.out.mono ?_
  intro e w4 hp
  obtain ⟨rfl, hk4, hg4⟩ := hp
  have b34 : Below w.heap.size w3 w4 := hk4.below (by have := Y.out.2.lt; omega) (by simp)
  have b04 : Below w.heap.size w w4 := (Z.out.2.trans (Y.out.1.mono (by omega))).trans b34
  cases hrd : rd ver (hasV 0 none ver) schFetchSnapshotRequest bs with
  | none =>
    have HN := Lib.hid (And.intro hrd b04)
    clear C hk4 hg4 hrd b34 b04
    simp only [Option.isSome_none, Bool.false_eq_true, if_false]
    go_wp2
    go_ret2
    exact ⟨HN.out.2, fun _ => rfl, fun v r hx => by rw [HN.out.1] at hx; cases hx⟩
  | some q =>
    obtain ⟨gv, r⟩ := q
    obtain ⟨hrep, hver⟩ := hg4 gv r hrd
    have hal : (ap ver (hasV 0 none ver) schFetchSnapshotRequest gv).length ≤ lim := by have := (anyLaw (ok ver h0 h1) H.out.2.1 hrd).1; unfold lim; omega
    have C2 := Lib.hid (appendFetchSnapshotRequest w4 ver (hasV0 h0) w.heap.size 0 gv hver hrep hal)
    have HS := Lib.hid (And.intro hrd b04)
    clear C hk4 hg4 hrd b34 b04 hrep hver hal
    simp only [Option.isSome_some, if_true]
    go_wp2_with fail
    refine C2.out.mono ?_
    rintro e w5 ⟨x, rfl, hown5, hb5⟩
    have X5 := Lib.hid (And.intro hown5 hb5)
    clear C2 hown5 hb5
    go_wp2
    go_ret2
    refine ⟨HS.out.2.trans (X5.out.2.mono HS.out.2.size), fun hx => (by rw [HS.out.1] at hx; cases hx), fun v r hx => ?_⟩
    rw [HS.out.1] at hx
    cases hx
    exact ⟨_, rfl, X5.out.1.mono HS.out.2.size⟩

set_option maxRecDepth 100000 in
set_option maxHeartbeats 3200000 in
theorem law (n : Int) (h0 : 0 ≤ n) (h1 : n ≤ 255) (tE : TypeId) (vE : Value) (w : World) (src : Value) (bs : List UInt8) (hs : RB [] w src bs) (hE : w.cell? ⟨1, 0, none⟩ = some (.iface tE vE)) :
    Calls Tryd.prog 3 #[.int .u8 n, src] w fun e w' => e = .returned (.bool true) ∧ Below w.heap.size w w' := by
  obtain ⟨ver, hv⟩ : ∃ ver, n % (1 + 1) = ver := ⟨_, rfl⟩
  have hv0 : 0 ≤ ver := by omega
  have hv1 : ver ≤ 1 := by omega
  have LV := fun w => versionOK n 1 h0 h1 (by decide) (by decide) w
  rw [hv] at LV
  have LVh := Lib.hid LV
  clear LV hv
  obtain ⟨sa, sc, rfl, -⟩ : ∃ a cap, src = .slice a bs.length cap ∧ True := by obtain ⟨a, cap, h, -⟩ := hs; exact ⟨a, cap, h, trivial⟩
  have hgl := World.block_lt_of_cell? w _ hE
  have H := Lib.hid (And.intro hs (And.intro hE hgl))
  clear hs hE hgl
  by_cases hz : 2147483647 < bs.length
  · have hz' : (2147483647 : Int) < (bs.length : Nat) := by omega
    clear hz
    go_enter Tryd.func3, Tryd.ntmps3
    go_wp2
    go_ret
    exact ⟨rfl, Below.refl _ _⟩
  by_cases hk : 1000 < bs.length
  · have hz' : ((bs.length : Nat) : Int) ≤ 2147483647 := by omega
    have hk' : (1000 : Int) < (bs.length : Nat) := by omega
    clear hz hk
    go_enter Tryd.func3, Tryd.ntmps3
    go_wp2_with fail
    refine (maxMsg _).mono ?_
    rintro e w1 ⟨rfl, hb1⟩
    have HB := Lib.hid hb1
    clear hb1
    go_wp2
    go_ret
    exact ⟨rfl, HB.out⟩
  have hz' : ((bs.length : Nat) : Int) ≤ 1000 := by omega
  have HK := Lib.hid (show bs.length ≤ 1000 by omega)
  clear hz hk
  go_enter Tryd.func3, Tryd.ntmps3
  go_wp2_with fail
  refine (maxMsg _).mono ?_
  rintro e w1 ⟨rfl, hb1⟩
  have hE1 : w1.cell? ⟨1, 0, none⟩ = some (.iface tE vE) := (hb1.cell (p := ⟨1, 0, none⟩) H.out.2.2).trans H.out.2.1
  have hs1 : RB [] w1 (.slice sa bs.length sc) bs := H.out.1.keeps (Keeps.of_below hb1 (Nat.le_refl _))
  have C1 := Lib.hid (again ver hv0 hv1 tE vE w1 _ bs hs1 HK.out hE1)
  have X1 := Lib.hid (And.intro hb1 hE1)
  clear hb1 hE1 hs1
  go_wp2_with fail
  refine (LVh.out _).mono ?_
  rintro e w1' ⟨rfl, rfl⟩
  go_wp2_with fail
  refine C1.out.mono ?_
  intro e w2 hp
  obtain ⟨b12, hn, hg⟩ := hp
  cases hrd : rd ver (hasV 0 none ver) schFetchSnapshotRequest bs with
  | none =>
    obtain rfl := hn hrd
    have B := Lib.hid (X1.out.1.trans (b12.mono X1.out.1.size))
    clear C1 b12 hn hg hrd
    go_wp2
    go_ret
    exact ⟨rfl, B.out⟩
  | some q =>
    obtain ⟨gv, r⟩ := q
    obtain ⟨x, rfl, hown⟩ := hg gv r hrd
    obtain ⟨hl2, gv2, hrd2, hap⟩ := anyLaw (ok ver hv0 hv1) HK.out hrd
    have hE2 : w2.cell? ⟨1, 0, none⟩ = some (.iface tE vE) := (b12.cell (p := ⟨1, 0, none⟩) (World.block_lt_of_cell? w1 _ X1.out.2)).trans X1.out.2
    have C2 := Lib.hid (again ver hv0 hv1 tE vE w2 x (ap ver (hasV 0 none ver) schFetchSnapshotRequest gv) (hown.rb [] (by simp)) hl2 hE2)
    obtain ⟨ya, yc, hx⟩ := own_shape hown
    have X2 := Lib.hid (And.intro hown (And.intro b12 (And.intro hrd2 hap)))
    generalize (ap ver (hasV 0 none ver) schFetchSnapshotRequest gv).length = yn at hx
    subst hx
    clear C1 b12 hn hg hrd hown hl2 hrd2 hap hE2
    go_wp2_with fail
    refine (LVh.out _).mono ?_
    rintro e w2' ⟨rfl, rfl⟩
    go_wp2_with fail
    refine C2.out.mono ?_
    intro e w3 hp
    obtain ⟨b23, -, hg⟩ := hp
    obtain ⟨y, rfl, hown3⟩ := hg gv2 [] X2.out.2.2.1
    rw [X2.out.2.2.2] at hown3
    have hx3 : Own w1.heap.size w3 (.slice ya yn yc) (ap ver (hasV 0 none ver) schFetchSnapshotRequest gv) := World.ownsRow.kept (row := none) X2.out.1 ⟨b23.os, b23.tape, b23.output, b23.size, fun k hk _ => b23.block k hk⟩ (by cases ya <;> simp [Value.ownBlock])
    have C3 := Lib.hid (sameOK (ap ver (hasV 0 none ver) schFetchSnapshotRequest gv) _ y w3.heap.size w3.heap.size w3 (Nat.le_refl _) hx3.rl' hown3.rl' (Nat.le_refl _))
    obtain ⟨za, zc, hy⟩ := own_shape hown3
    generalize (ap ver (hasV 0 none ver) schFetchSnapshotRequest gv).length = zn at hy
    subst hy
    have B := Lib.hid ((X1.out.1.trans (X2.out.2.1.mono X1.out.1.size)).trans (b23.mono (Nat.le_trans X1.out.1.size X2.out.2.1.size)))
    clear C2 b23 hg hown3 hx3
    go_wp2_with fail
    refine C3.out.mono ?_
    rintro e w4 ⟨rfl, b34⟩
    have B4 := Lib.hid (B.out.trans (b34.mono B.out.size))
    clear C3 b34
    go_wp2
    go_ret
    exact ⟨rfl, B4.out⟩

end Go.Proofs.YtolpnfdegjdibaaDoor.anyFetchSnapshotRequest
