/- A new GetTelemetrySubscriptionsResponse is written as the defaults are. Printed by newgen.py. -/
import Derived.Test.YtaihhpnfelobjaaSpk
import Derived.Test.YtaihhpnfelobjaaAppAll
namespace Go.Proofs.Ytaihhpnfelobjaa.newGetTelemetrySubscriptionsResponse
open Go Go.RowKit
def fs29 : PFs := (.cons 3 0 (-1) (-1) (-1) 0 0 .nil (.cons 2 0 (-1) (-1) (-1) 0 0 .nil (.cons 7 0 (-1) (-1) (-1) 0 0 .nil (.cons 3 0 (-1) (-1) (-1) 0 0 .nil (.cons 11 0 (-1) (-1) (-1) 0 1 .nil (.cons 3 0 (-1) (-1) (-1) 0 0 .nil (.cons 3 0 (-1) (-1) (-1) 0 0 .nil (.cons 0 0 (-1) (-1) (-1) 0 0 .nil (.cons 11 0 (-1) (-1) (-1) 0 8 .nil .nil)))))))))
set_option maxRecDepth 100000 in
set_option maxHeartbeats 1600000 in
theorem gives29 : GivesM 29 fs29 0 := by
  intro w0
  go_enter Try.func29, Try.ntmps29
  go_wp2
  have hB := Blk.alloc_new2 w0 (.cells [.slice (some ⟨w0.heap.size + 1, 0, none⟩) 9 9, .int .i64 0].toArray 25) [.int .i64 3, .int .i64 0, .int .i64 (-1), .int .i64 (-1), .int .i64 (-1), .int .i64 0, .int .i64 0, .slice none 0 0, .int .i64 2, .int .i64 0, .int .i64 (-1), .int .i64 (-1), .int .i64 (-1), .int .i64 0, .int .i64 0, .slice none 0 0, .int .i64 7, .int .i64 0, .int .i64 (-1), .int .i64 (-1), .int .i64 (-1), .int .i64 0, .int .i64 0, .slice none 0 0, .int .i64 3, .int .i64 0, .int .i64 (-1), .int .i64 (-1), .int .i64 (-1), .int .i64 0, .int .i64 0, .slice none 0 0, .int .i64 11, .int .i64 0, .int .i64 (-1), .int .i64 (-1), .int .i64 (-1), .int .i64 0, .int .i64 1, .slice none 0 0, .int .i64 3, .int .i64 0, .int .i64 (-1), .int .i64 (-1), .int .i64 (-1), .int .i64 0, .int .i64 0, .slice none 0 0, .int .i64 3, .int .i64 0, .int .i64 (-1), .int .i64 (-1), .int .i64 (-1), .int .i64 0, .int .i64 0, .slice none 0 0, .int .i64 0, .int .i64 0, .int .i64 (-1), .int .i64 (-1), .int .i64 (-1), .int .i64 0, .int .i64 0, .slice none 0 0, .int .i64 11, .int .i64 0, .int .i64 (-1), .int .i64 (-1), .int .i64 (-1), .int .i64 0, .int .i64 8, .slice none 0 0] 43
  have hM := (Blk.alloc_new w0 [.slice (some ⟨w0.heap.size + 1, 0, none⟩) 9 9, .int .i64 0] 25).alloc (.cells [.int .i64 3, .int .i64 0, .int .i64 (-1), .int .i64 (-1), .int .i64 (-1), .int .i64 0, .int .i64 0, .slice none 0 0, .int .i64 2, .int .i64 0, .int .i64 (-1), .int .i64 (-1), .int .i64 (-1), .int .i64 0, .int .i64 0, .slice none 0 0, .int .i64 7, .int .i64 0, .int .i64 (-1), .int .i64 (-1), .int .i64 (-1), .int .i64 0, .int .i64 0, .slice none 0 0, .int .i64 3, .int .i64 0, .int .i64 (-1), .int .i64 (-1), .int .i64 (-1), .int .i64 0, .int .i64 0, .slice none 0 0, .int .i64 11, .int .i64 0, .int .i64 (-1), .int .i64 (-1), .int .i64 (-1), .int .i64 0, .int .i64 1, .slice none 0 0, .int .i64 3, .int .i64 0, .int .i64 (-1), .int .i64 (-1), .int .i64 (-1), .int .i64 0, .int .i64 0, .slice none 0 0, .int .i64 3, .int .i64 0, .int .i64 (-1), .int .i64 (-1), .int .i64 (-1), .int .i64 0, .int .i64 0, .slice none 0 0, .int .i64 0, .int .i64 0, .int .i64 (-1), .int .i64 (-1), .int .i64 (-1), .int .i64 0, .int .i64 0, .slice none 0 0, .int .i64 11, .int .i64 0, .int .i64 (-1), .int .i64 (-1), .int .i64 (-1), .int .i64 0, .int .i64 8, .slice none 0 0].toArray 43)
  have hs : ((w0.alloc (.cells [.slice (some ⟨w0.heap.size + 1, 0, none⟩) 9 9, .int .i64 0].toArray 25)).alloc (.cells [.int .i64 3, .int .i64 0, .int .i64 (-1), .int .i64 (-1), .int .i64 (-1), .int .i64 0, .int .i64 0, .slice none 0 0, .int .i64 2, .int .i64 0, .int .i64 (-1), .int .i64 (-1), .int .i64 (-1), .int .i64 0, .int .i64 0, .slice none 0 0, .int .i64 7, .int .i64 0, .int .i64 (-1), .int .i64 (-1), .int .i64 (-1), .int .i64 0, .int .i64 0, .slice none 0 0, .int .i64 3, .int .i64 0, .int .i64 (-1), .int .i64 (-1), .int .i64 (-1), .int .i64 0, .int .i64 0, .slice none 0 0, .int .i64 11, .int .i64 0, .int .i64 (-1), .int .i64 (-1), .int .i64 (-1), .int .i64 0, .int .i64 1, .slice none 0 0, .int .i64 3, .int .i64 0, .int .i64 (-1), .int .i64 (-1), .int .i64 (-1), .int .i64 0, .int .i64 0, .slice none 0 0, .int .i64 3, .int .i64 0, .int .i64 (-1), .int .i64 (-1), .int .i64 (-1), .int .i64 0, .int .i64 0, .slice none 0 0, .int .i64 0, .int .i64 0, .int .i64 (-1), .int .i64 (-1), .int .i64 (-1), .int .i64 0, .int .i64 0, .slice none 0 0, .int .i64 11, .int .i64 0, .int .i64 (-1), .int .i64 (-1), .int .i64 (-1), .int .i64 0, .int .i64 8, .slice none 0 0].toArray 43)).heap.size = w0.heap.size + 2 := by simp
  have hR : RepF ((w0.alloc (.cells [.slice (some ⟨w0.heap.size + 1, 0, none⟩) 9 9, .int .i64 0].toArray 25)).alloc (.cells [.int .i64 3, .int .i64 0, .int .i64 (-1), .int .i64 (-1), .int .i64 (-1), .int .i64 0, .int .i64 0, .slice none 0 0, .int .i64 2, .int .i64 0, .int .i64 (-1), .int .i64 (-1), .int .i64 (-1), .int .i64 0, .int .i64 0, .slice none 0 0, .int .i64 7, .int .i64 0, .int .i64 (-1), .int .i64 (-1), .int .i64 (-1), .int .i64 0, .int .i64 0, .slice none 0 0, .int .i64 3, .int .i64 0, .int .i64 (-1), .int .i64 (-1), .int .i64 (-1), .int .i64 0, .int .i64 0, .slice none 0 0, .int .i64 11, .int .i64 0, .int .i64 (-1), .int .i64 (-1), .int .i64 (-1), .int .i64 0, .int .i64 1, .slice none 0 0, .int .i64 3, .int .i64 0, .int .i64 (-1), .int .i64 (-1), .int .i64 (-1), .int .i64 0, .int .i64 0, .slice none 0 0, .int .i64 3, .int .i64 0, .int .i64 (-1), .int .i64 (-1), .int .i64 (-1), .int .i64 0, .int .i64 0, .slice none 0 0, .int .i64 0, .int .i64 0, .int .i64 (-1), .int .i64 (-1), .int .i64 (-1), .int .i64 0, .int .i64 0, .slice none 0 0, .int .i64 11, .int .i64 0, .int .i64 (-1), .int .i64 (-1), .int .i64 (-1), .int .i64 0, .int .i64 8, .slice none 0 0].toArray 43)).heap.size ((w0.alloc (.cells [.slice (some ⟨w0.heap.size + 1, 0, none⟩) 9 9, .int .i64 0].toArray 25)).alloc (.cells [.int .i64 3, .int .i64 0, .int .i64 (-1), .int .i64 (-1), .int .i64 (-1), .int .i64 0, .int .i64 0, .slice none 0 0, .int .i64 2, .int .i64 0, .int .i64 (-1), .int .i64 (-1), .int .i64 (-1), .int .i64 0, .int .i64 0, .slice none 0 0, .int .i64 7, .int .i64 0, .int .i64 (-1), .int .i64 (-1), .int .i64 (-1), .int .i64 0, .int .i64 0, .slice none 0 0, .int .i64 3, .int .i64 0, .int .i64 (-1), .int .i64 (-1), .int .i64 (-1), .int .i64 0, .int .i64 0, .slice none 0 0, .int .i64 11, .int .i64 0, .int .i64 (-1), .int .i64 (-1), .int .i64 (-1), .int .i64 0, .int .i64 1, .slice none 0 0, .int .i64 3, .int .i64 0, .int .i64 (-1), .int .i64 (-1), .int .i64 (-1), .int .i64 0, .int .i64 0, .slice none 0 0, .int .i64 3, .int .i64 0, .int .i64 (-1), .int .i64 (-1), .int .i64 (-1), .int .i64 0, .int .i64 0, .slice none 0 0, .int .i64 0, .int .i64 0, .int .i64 (-1), .int .i64 (-1), .int .i64 (-1), .int .i64 0, .int .i64 0, .slice none 0 0, .int .i64 11, .int .i64 0, .int .i64 (-1), .int .i64 (-1), .int .i64 (-1), .int .i64 0, .int .i64 8, .slice none 0 0].toArray 43)) fs29 (.slice (some ⟨w0.heap.size + 1, 0, none⟩) 9 9) := ⟨some ⟨w0.heap.size + 1, 0, none⟩, 9, rfl, by decide, fun _ => ⟨_, 0, rfl, by rw [hs]; omega, ⟨⟨hB.cell_some rfl, hB.cell_some rfl, hB.cell_some rfl, hB.cell_some rfl, hB.cell_some rfl, hB.cell_some rfl, hB.cell_some rfl⟩, ⟨_, hB.cell_some rfl, none, 0, rfl, by decide, fun h => absurd rfl h⟩, ⟨⟨hB.cell_some rfl, hB.cell_some rfl, hB.cell_some rfl, hB.cell_some rfl, hB.cell_some rfl, hB.cell_some rfl, hB.cell_some rfl⟩, ⟨_, hB.cell_some rfl, none, 0, rfl, by decide, fun h => absurd rfl h⟩, ⟨⟨hB.cell_some rfl, hB.cell_some rfl, hB.cell_some rfl, hB.cell_some rfl, hB.cell_some rfl, hB.cell_some rfl, hB.cell_some rfl⟩, ⟨_, hB.cell_some rfl, none, 0, rfl, by decide, fun h => absurd rfl h⟩, ⟨⟨hB.cell_some rfl, hB.cell_some rfl, hB.cell_some rfl, hB.cell_some rfl, hB.cell_some rfl, hB.cell_some rfl, hB.cell_some rfl⟩, ⟨_, hB.cell_some rfl, none, 0, rfl, by decide, fun h => absurd rfl h⟩, ⟨⟨hB.cell_some rfl, hB.cell_some rfl, hB.cell_some rfl, hB.cell_some rfl, hB.cell_some rfl, hB.cell_some rfl, hB.cell_some rfl⟩, ⟨_, hB.cell_some rfl, none, 0, rfl, by decide, fun h => absurd rfl h⟩, ⟨⟨hB.cell_some rfl, hB.cell_some rfl, hB.cell_some rfl, hB.cell_some rfl, hB.cell_some rfl, hB.cell_some rfl, hB.cell_some rfl⟩, ⟨_, hB.cell_some rfl, none, 0, rfl, by decide, fun h => absurd rfl h⟩, ⟨⟨hB.cell_some rfl, hB.cell_some rfl, hB.cell_some rfl, hB.cell_some rfl, hB.cell_some rfl, hB.cell_some rfl, hB.cell_some rfl⟩, ⟨_, hB.cell_some rfl, none, 0, rfl, by decide, fun h => absurd rfl h⟩, ⟨⟨hB.cell_some rfl, hB.cell_some rfl, hB.cell_some rfl, hB.cell_some rfl, hB.cell_some rfl, hB.cell_some rfl, hB.cell_some rfl⟩, ⟨_, hB.cell_some rfl, none, 0, rfl, by decide, fun h => absurd rfl h⟩, ⟨⟨hB.cell_some rfl, hB.cell_some rfl, hB.cell_some rfl, hB.cell_some rfl, hB.cell_some rfl, hB.cell_some rfl, hB.cell_some rfl⟩, ⟨_, hB.cell_some rfl, none, 0, rfl, by decide, fun h => absurd rfl h⟩, trivial⟩⟩⟩⟩⟩⟩⟩⟩⟩⟩⟩
  have hbt := ((Below.refl w0.heap.size w0).alloc (Nat.le_refl _) (.cells [.slice (some ⟨w0.heap.size + 1, 0, none⟩) 9 9, .int .i64 0].toArray 25)).alloc (by simp) (.cells [.int .i64 3, .int .i64 0, .int .i64 (-1), .int .i64 (-1), .int .i64 (-1), .int .i64 0, .int .i64 0, .slice none 0 0, .int .i64 2, .int .i64 0, .int .i64 (-1), .int .i64 (-1), .int .i64 (-1), .int .i64 0, .int .i64 0, .slice none 0 0, .int .i64 7, .int .i64 0, .int .i64 (-1), .int .i64 (-1), .int .i64 (-1), .int .i64 0, .int .i64 0, .slice none 0 0, .int .i64 3, .int .i64 0, .int .i64 (-1), .int .i64 (-1), .int .i64 (-1), .int .i64 0, .int .i64 0, .slice none 0 0, .int .i64 11, .int .i64 0, .int .i64 (-1), .int .i64 (-1), .int .i64 (-1), .int .i64 0, .int .i64 1, .slice none 0 0, .int .i64 3, .int .i64 0, .int .i64 (-1), .int .i64 (-1), .int .i64 (-1), .int .i64 0, .int .i64 0, .slice none 0 0, .int .i64 3, .int .i64 0, .int .i64 (-1), .int .i64 (-1), .int .i64 (-1), .int .i64 0, .int .i64 0, .slice none 0 0, .int .i64 0, .int .i64 0, .int .i64 (-1), .int .i64 (-1), .int .i64 (-1), .int .i64 0, .int .i64 0, .slice none 0 0, .int .i64 11, .int .i64 0, .int .i64 (-1), .int .i64 (-1), .int .i64 (-1), .int .i64 0, .int .i64 8, .slice none 0 0].toArray 43)
  exact ret_msg (fn := Try.f29) (g := w0.heap.size) rfl rfl hM rfl ⟨_, rfl, hR, hbt⟩
theorem fsTag : fs29.noTag := by simp [PFs.noTag, fs29]
theorem fsOpt : fs29.noOpt := by simp [PFs.noOpt, fs29]
theorem fsFlat : fs29.flat := by simp [PFs.flat, fs29]
def gv : GV := (.cons (.int 0) (.cons (.int 0) (.cons (.bytes (List.replicate 16 0)) (.cons (.int 0) (.cons (.list []) (.cons (.int 0) (.cons (.int 0) (.cons (.bool false) (.cons (.list []) (.tags []))))))))))
set_option maxHeartbeats 800000 in
theorem newPtr (w : World) : Calls Try.prog 64 #[] w fun e w' => e = .returned (.pointer (some ⟨w.heap.size, 0, none⟩)) ∧ w' = w.alloc (.cells [.int .i16 0, .int .i32 0, .int .i16 0, .int .u8 0, .int .u8 0, .int .u8 0, .int .u8 0, .int .u8 0, .int .u8 0, .int .u8 0, .int .u8 0, .int .u8 0, .int .u8 0, .int .u8 0, .int .u8 0, .int .u8 0, .int .u8 0, .int .u8 0, .int .u8 0, .int .i32 0, .slice none 0 0, .int .i32 0, .int .i32 0, .bool false, .slice none 0 0, .map none].toArray 126) := by
  go_enter Try.func64, Try.ntmps64
  go_wp2
  go_end0
  go_wp2
  go_ret
  exact ⟨rfl, rfl⟩
set_option maxHeartbeats 800000 in
theorem setV (w : World) (b : Nat) (x : Value) (c : List Value) (v : Int) (h : Blk w b (x :: c) 126) : Calls Try.prog 66 #[.pointer (some ⟨b, 0, none⟩), .int .i16 v] w fun e w' => e = .returned (.tuple #[]) ∧ w' = w.setCell ⟨b, 0, none⟩ (.int .i16 v) := by
  have m := h.cell_some (i := 0) rfl
  have f := h.frozen 0
  go_enter Try.func66, Try.ntmps66
  go_wp2
  go_end0
  exact ⟨rfl, rfl⟩
theorem hasV0 {ver : Int} (h : 0 ≤ ver) : hasV 0 none ver = true := by simp [hasV, h]
theorem spelled (ver : Int) (h0 : 0 ≤ ver) (h1 : ver ≤ 0) : pPart ver (hasV 0 none ver) fs29 (.mk 0 [] false (pDefault fs29) []) = ap ver (hasV 0 none ver) schGetTelemetrySubscriptionsResponse gv ∧ (ap ver (hasV 0 none ver) schGetTelemetrySubscriptionsResponse gv).length ≤ lim := by
  have h : ver = 0 := by omega
  rcases h with rfl
  all_goals exact ⟨by decide +kernel, by decide +kernel⟩
set_option maxRecDepth 100000 in
set_option maxHeartbeats 1600000 in
theorem newMsg (ver : Int) (h0 : 0 ≤ ver) (h1 : ver ≤ 0) (base : Nat) (w : World) (hb : base ≤ w.heap.size) : Gives Try.prog 30 #[.int .i64 ver] w base (ap ver (hasV 0 none ver) schGetTelemetrySubscriptionsResponse gv) := by
  have hw : (ver + 32768) % 65536 - 32768 = ver := by omega
  have HL := Lib.hid (spelled ver h0 h1).2
  go_enter Try.func30, Try.ntmps30
  go_wp2_with fail
  refine (newPtr _).mono ?_
  rintro e w1 ⟨rfl, rfl⟩
  have hB0 := Blk.alloc_new w [.int .i16 0, .int .i32 0, .int .i16 0, .int .u8 0, .int .u8 0, .int .u8 0, .int .u8 0, .int .u8 0, .int .u8 0, .int .u8 0, .int .u8 0, .int .u8 0, .int .u8 0, .int .u8 0, .int .u8 0, .int .u8 0, .int .u8 0, .int .u8 0, .int .u8 0, .int .i32 0, .slice none 0 0, .int .i32 0, .int .i32 0, .bool false, .slice none 0 0, .map none] 126
  go_wp2_with fail
  refine (setV _ _ _ _ ver hB0).mono ?_
  rintro e w2 ⟨rfl, rfl⟩
  have hB : Blk ((w.alloc (.cells [.int .i16 0, .int .i32 0, .int .i16 0, .int .u8 0, .int .u8 0, .int .u8 0, .int .u8 0, .int .u8 0, .int .u8 0, .int .u8 0, .int .u8 0, .int .u8 0, .int .u8 0, .int .u8 0, .int .u8 0, .int .u8 0, .int .u8 0, .int .u8 0, .int .u8 0, .int .i32 0, .slice none 0 0, .int .i32 0, .int .i32 0, .bool false, .slice none 0 0, .map none].toArray 126)).setCell ⟨w.heap.size, 0, none⟩ (.int .i16 ver)) w.heap.size [.int .i16 ver, .int .i32 0, .int .i16 0, .int .u8 0, .int .u8 0, .int .u8 0, .int .u8 0, .int .u8 0, .int .u8 0, .int .u8 0, .int .u8 0, .int .u8 0, .int .u8 0, .int .u8 0, .int .u8 0, .int .u8 0, .int .u8 0, .int .u8 0, .int .u8 0, .int .i32 0, .slice none 0 0, .int .i32 0, .int .i32 0, .bool false, .slice none 0 0, .map none] 126 := hB0.set 0 (.int .i16 ver)
  have hbel := ((Below.refl base w).alloc hb (.cells [.int .i16 0, .int .i32 0, .int .i16 0, .int .u8 0, .int .u8 0, .int .u8 0, .int .u8 0, .int .u8 0, .int .u8 0, .int .u8 0, .int .u8 0, .int .u8 0, .int .u8 0, .int .u8 0, .int .u8 0, .int .u8 0, .int .u8 0, .int .u8 0, .int .u8 0, .int .i32 0, .slice none 0 0, .int .i32 0, .int .i32 0, .bool false, .slice none 0 0, .map none].toArray 126)).setCell (p := ⟨w.heap.size, 0, none⟩) hb (.int .i16 ver)
  generalize (w.alloc (.cells [.int .i16 0, .int .i32 0, .int .i16 0, .int .u8 0, .int .u8 0, .int .u8 0, .int .u8 0, .int .u8 0, .int .u8 0, .int .u8 0, .int .u8 0, .int .u8 0, .int .u8 0, .int .u8 0, .int .u8 0, .int .u8 0, .int .u8 0, .int .u8 0, .int .u8 0, .int .i32 0, .slice none 0 0, .int .i32 0, .int .i32 0, .bool false, .slice none 0 0, .map none].toArray 126)).setCell ⟨w.heap.size, 0, none⟩ (.int .i16 ver) = w2 at *
  have Z := Lib.hid (And.intro hB hbel)
  clear hB hbel hB0
  go_wp2_with fail
  have hB := Z.out.1
  refine (appendGetTelemetrySubscriptionsResponse w2 ver (hasV0 h0) w.heap.size 0 gv (hB.cell_some rfl) ⟨fun _ => ⟨hB.cell_some rfl, by decide, by decide⟩, ⟨fun _ => ⟨hB.cell_some rfl, by decide, by decide⟩, ⟨fun _ => uuid0 hB (by intro i hi; have h : i = 0 ∨ i = 1 ∨ i = 2 ∨ i = 3 ∨ i = 4 ∨ i = 5 ∨ i = 6 ∨ i = 7 ∨ i = 8 ∨ i = 9 ∨ i = 10 ∨ i = 11 ∨ i = 12 ∨ i = 13 ∨ i = 14 ∨ i = 15 := (by omega); rcases h with rfl | rfl | rfl | rfl | rfl | rfl | rfl | rfl | rfl | rfl | rfl | rfl | rfl | rfl | rfl | rfl <;> rfl) _, ⟨fun _ => ⟨hB.cell_some rfl, by decide, by decide⟩, ⟨fun _ => ⟨none, 0, hB.cell_some rfl, by decide, fun h => (by cases h), fun h => absurd rfl h⟩, ⟨fun _ => ⟨hB.cell_some rfl, by decide, by decide⟩, ⟨fun _ => ⟨hB.cell_some rfl, by decide, by decide⟩, ⟨fun _ => hB.cell_some rfl, ⟨fun _ => ⟨none, 0, hB.cell_some rfl, by decide, fun h => (by cases h), fun h => absurd rfl h⟩, ⟨rfl, hB.cell_some rfl⟩⟩⟩⟩⟩⟩⟩⟩⟩⟩ HL.out).mono ?_
  rintro e w3 ⟨v, rfl, hown, hb3⟩
  clear hB
  go_wp2
  go_ret
  exact .mk (hown.mono (Nat.le_trans hb (Z.out.2.size))) (Z.out.2.trans (hb3.mono (Nat.le_trans hb Z.out.2.size)))

set_option maxHeartbeats 800000 in
theorem maxMsg (w : World) : Calls Try.prog 28 #[] w fun e w' => e = .returned (.int .i64 0) ∧ Below w.heap.size w w' := by
  go_enter Try.func28, Try.ntmps28
  go_wp2_with fail
  refine (newPtr _).mono ?_
  rintro e w1 ⟨rfl, rfl⟩
  have hb := Lib.hid ((Below.refl w.heap.size w).alloc (Nat.le_refl _) (.cells [.int .i16 0, .int .i32 0, .int .i16 0, .int .u8 0, .int .u8 0, .int .u8 0, .int .u8 0, .int .u8 0, .int .u8 0, .int .u8 0, .int .u8 0, .int .u8 0, .int .u8 0, .int .u8 0, .int .u8 0, .int .u8 0, .int .u8 0, .int .u8 0, .int .u8 0, .int .i32 0, .slice none 0 0, .int .i32 0, .int .i32 0, .bool false, .slice none 0 0, .map none].toArray 126))
  go_wp2
  go_ret
  exact ⟨rfl, hb.out⟩
set_option maxRecDepth 100000 in
set_option maxHeartbeats 3200000 in
theorem law (n : Int) (h0 : 0 ≤ n) (h1 : n ≤ 255) (w : World) : Calls Try.prog 7 #[.int .u8 n] w fun e w' => e = .returned (.bool true) ∧ Below w.heap.size w w' := by
  obtain ⟨ver, hv⟩ : ∃ ver, n % (0 + 1) = ver := ⟨_, rfl⟩
  have hv0 : 0 ≤ ver := by omega
  have hv1 : ver ≤ 0 := by omega
  have LV := fun w => lawVersion n 0 h0 h1 (by decide) (by decide) w
  rw [hv] at LV
  have LVh := Lib.hid LV
  have SPh := Lib.hid (spelled ver hv0 hv1)
  clear LV hv
  go_enter Try.func7, Try.ntmps7
  go_wp2_with fail
  refine (maxMsg _).mono ?_
  rintro e w1 ⟨rfl, hb1⟩
  go_wp2_with fail
  refine (gives29 _).mono ?_
  rintro e w2 ⟨fv, rfl, hf, hb2⟩
  obtain ⟨fa, fcap, rfl, -⟩ := id hf
  have hM := Blk.alloc_new w2 [.slice fa fs29.len fcap, .int .i64 0] 25
  have hb3 : Below w2.heap.size w2 ((w2.alloc (.cells #[.slice fa fs29.len fcap, .int .i64 0] 25)).drew) := ((Below.refl w2.heap.size w2).alloc (Nat.le_refl _) (.cells #[.slice fa fs29.len fcap, .int .i64 0] 25)).drew
  have hs3 : ((w2.alloc (.cells #[.slice fa fs29.len fcap, .int .i64 0] 25)).drew).heap.size = w2.heap.size + 1 := by simp
  have c : ((w2.alloc (.cells #[.slice fa fs29.len fcap, .int .i64 0] 25)).drew).cell? ⟨w2.heap.size, 0, none⟩ = some (.slice fa fs29.len fcap) ∧ ((w2.alloc (.cells #[.slice fa fs29.len fcap, .int .i64 0] 25)).drew).cell? ⟨w2.heap.size, 1, none⟩ = some (.int .i64 0) := ⟨hM.drew.cell_some (i := 0) rfl, hM.drew.cell_some (i := 1) rfl⟩
  have hC := Lib.hid c
  have Z := Lib.hid (And.intro hf (And.intro hb1 (And.intro hb2 hb3)))
  have z1 := hb1.size
  have z2 := hb2.size
  clear c hM hb1 hb2 hb3 hf
  go_wp2_with fail
  go_region_held3 (fun w' => w'.cell? ⟨w2.heap.size, 0, none⟩ = some (.slice fa fs29.len fcap) ∧ w'.cell? ⟨w2.heap.size, 1, none⟩ = some (.int .i64 0))
    (first | exact hC.out | assumption | exact hS6 | exact hS7 | exact hS8 | exact hS9)
    (first
      | (go_at_call 16; refine (LVh.out _).mono ?_; rintro e w' ⟨rfl, rfl⟩)
      | (go_at_call 30; refine (newMsg ver hv0 hv1 ((w2.alloc (.cells #[.slice fa fs29.len fcap, .int .i64 0] 25)).drew).heap.size ((w2.alloc (.cells #[.slice fa fs29.len fcap, .int .i64 0] 25)).drew) (Nat.le_refl _)).mono ?_; rintro e w6 ⟨x6, rfl, hown6, hb6⟩; have hS6 := keep2 hb6 (by omega) hC.out; have z6 := hb6.size)
      | (go_at_call 18; refine (spDefault fs29 fsTag fsFlat (by decide) w2.heap.size w6.heap.size w6 _ (by omega) (Nat.le_refl _) (Z.out.1.below (Z.out.2.2.2.trans (hb6.mono (by omega))))).mono ?_; rintro e w7 ⟨c7, rfl, ht7, hb7⟩; have hS7 := keep2 hb7 (by omega) hS6; have z7 := hb7.size)
      | (go_at_call 17; refine (spWrite fs29 fsTag fsOpt ver 0 _ (noU_default fsFlat) (hasV 0 none ver) (by simp [hasV]) w7.heap.size w7.heap.size w7 _ c7 (Nat.le_refl _) (Nat.le_refl _) ((Z.out.1.below (Z.out.2.2.2.trans ((hb6.mono (by omega)).trans (hb7.mono (by omega))))).upB (by omega)) ht7 (by rw [SPh.out.1]; exact SPh.out.2)).mono ?_; rintro e w8 ⟨x8, rfl, hown8, hb8⟩; have hS8 := keep2 hb8 (by omega) hS7; have z8 := hb8.size)
      | (go_at_call 14; refine (spSame (ap ver (hasV 0 none ver) schGetTelemetrySubscriptionsResponse gv) x6 x8 w8.heap.size w8.heap.size w8 (Nat.le_refl _) ((hown6.stay hb7 (Nat.le_refl _)).stay hb8 (Nat.le_refl _)).rl (by rw [← SPh.out.1]; exact hown8.rl) (Nat.le_refl _)).mono ?_; rintro e w9 ⟨rfl, hb9⟩; have hS9 := keep2 hb9 (by omega) hS8))
  have hfin : Below w.heap.size w w9 := Z.out.2.1.trans ((Z.out.2.2.1.mono (by omega)).trans ((Z.out.2.2.2.mono (by omega)).trans ((hb6.mono (by omega)).trans ((hb7.mono (by omega)).trans ((hb8.mono (by omega)).trans (hb9.mono (by omega)))))))
  have FIN := Lib.hid hfin
  clear hfin hb6 hb7 hb8 hb9 hown6 hown8 ht7 hS6 hS7 hS8 hS9
  go_wp2
  go_ret
  exact ⟨rfl, FIN.out⟩

end Go.Proofs.Ytaihhpnfelobjaa.newGetTelemetrySubscriptionsResponse
