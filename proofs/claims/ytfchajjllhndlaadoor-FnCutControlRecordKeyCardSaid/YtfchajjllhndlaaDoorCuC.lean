/- What the reference writes of a ControlRecordKey is read and written again: cut short it is an error. Printed by againgen.py. -/
import Derived.Test.YtfchajjllhndlaaDoorMe
import Derived.Test.YtfchajjllhndlaaDoorKe
import Derived.Test.YtfchajjllhndlaaDoorReadC
namespace Go.Proofs.YtfchajjllhndlaaDoor.cutControlRecordKey
open Go Go.RowKit
set_option linter.unusedVariables false
def fs17 : PFs := (.cons 2 0 (-1) (-1) (-1) 0 0 .nil .nil)
set_option maxRecDepth 100000 in
set_option maxHeartbeats 1600000 in
theorem gives17 : GivesM 17 fs17 (-1) := by
  intro w0
  go_enter Tryd.func17, Tryd.ntmps17
  go_wp2
  have hB := Blk.alloc_new2 w0 (.cells [.slice (some ⟨w0.heap.size + 1, 0, none⟩) 1 1, .int .i64 (-1)].toArray 33) [.int .i64 2, .int .i64 0, .int .i64 (-1), .int .i64 (-1), .int .i64 (-1), .int .i64 0, .int .i64 0, .slice none 0 0] 49
  have hM := (Blk.alloc_new w0 [.slice (some ⟨w0.heap.size + 1, 0, none⟩) 1 1, .int .i64 (-1)] 33).alloc (.cells [.int .i64 2, .int .i64 0, .int .i64 (-1), .int .i64 (-1), .int .i64 (-1), .int .i64 0, .int .i64 0, .slice none 0 0].toArray 49)
  have hs : ((w0.alloc (.cells [.slice (some ⟨w0.heap.size + 1, 0, none⟩) 1 1, .int .i64 (-1)].toArray 33)).alloc (.cells [.int .i64 2, .int .i64 0, .int .i64 (-1), .int .i64 (-1), .int .i64 (-1), .int .i64 0, .int .i64 0, .slice none 0 0].toArray 49)).heap.size = w0.heap.size + 2 := by simp
  have hR : RepF ((w0.alloc (.cells [.slice (some ⟨w0.heap.size + 1, 0, none⟩) 1 1, .int .i64 (-1)].toArray 33)).alloc (.cells [.int .i64 2, .int .i64 0, .int .i64 (-1), .int .i64 (-1), .int .i64 (-1), .int .i64 0, .int .i64 0, .slice none 0 0].toArray 49)).heap.size ((w0.alloc (.cells [.slice (some ⟨w0.heap.size + 1, 0, none⟩) 1 1, .int .i64 (-1)].toArray 33)).alloc (.cells [.int .i64 2, .int .i64 0, .int .i64 (-1), .int .i64 (-1), .int .i64 (-1), .int .i64 0, .int .i64 0, .slice none 0 0].toArray 49)) fs17 (.slice (some ⟨w0.heap.size + 1, 0, none⟩) 1 1) := ⟨some ⟨w0.heap.size + 1, 0, none⟩, 1, rfl, by decide, fun _ => ⟨_, 0, rfl, by rw [hs]; omega, ⟨⟨hB.cell_some rfl, hB.cell_some rfl, hB.cell_some rfl, hB.cell_some rfl, hB.cell_some rfl, hB.cell_some rfl, hB.cell_some rfl⟩, ⟨_, hB.cell_some rfl, none, 0, rfl, by decide, fun h => absurd rfl h⟩, trivial⟩⟩⟩
  have hbt := ((Below.refl w0.heap.size w0).alloc (Nat.le_refl _) (.cells [.slice (some ⟨w0.heap.size + 1, 0, none⟩) 1 1, .int .i64 (-1)].toArray 33)).alloc (by simp) (.cells [.int .i64 2, .int .i64 0, .int .i64 (-1), .int .i64 (-1), .int .i64 (-1), .int .i64 0, .int .i64 0, .slice none 0 0].toArray 49)
  exact ret_msg (fn := Tryd.f17) (g := w0.heap.size) rfl rfl hM rfl ⟨_, rfl, hR, hbt⟩
theorem fsTag : fs17.noTag := by simp [PFs.noTag, fs17]
theorem fsOpt : fs17.noOpt := by simp [PFs.noOpt, fs17]
theorem mcM : ManyCells Tryd.prog 61 2 := ⟨fun w => Tryd.isAgg61 w, ⟨Tryd.t61, _, by kernel_rfl, rfl, rfl, rfl⟩⟩
theorem infoM : (Tryd.prog.info? 61).map (fun i => i.zero) = some (some (.agg [.int .i16 0, .int .i16 0].toArray)) := by kernel_rfl
theorem allocM (w : World) : (Instr.alloc 61 true (.tuple #[])).run Tryd.prog w = .ok (.pointer (some ⟨w.heap.size, 0, none⟩)) (w.alloc (.cells [.int .i16 0, .int .i16 0].toArray 61)) := by
  obtain ⟨i, hi, hz⟩ : ∃ i, Tryd.prog.info? 61 = some i ∧ i.zero = some (.agg [.int .i16 0, .int .i16 0].toArray) := by
    have h := infoM
    cases hx : Tryd.prog.info? 61 with
    | none => rw [hx] at h; cases h
    | some i => rw [hx] at h; exact ⟨i, rfl, by simpa using h⟩
  simp [Instr.alloc, zeroValue, typeInfo, hi, hz, newVar, newRow, Value.cells]
set_option maxHeartbeats 800000 in
theorem defM (w : World) (b : Nat) (h : Blk w b [.int .i16 0, .int .i16 0] 61) : Calls Tryd.prog 68 #[.pointer (some ⟨b, 0, none⟩)] w fun en w' => en = .returned (.tuple #[]) ∧ Blk w' b [.int .i16 0, .int .i16 0] 61 ∧ Keeps [b] w w' := by
  go_enter Tryd.func68, Tryd.ntmps68
  go_wp2
  go_end0
  exact ⟨rfl, h, Keeps.refl _ _⟩
theorem newM (w : World) : Calls Tryd.prog 36 #[] w fun e w' => e = .returned (.agg [.int .i16 0, .int .i16 0].toArray) ∧ Below w.heap.size w w' :=
  calls_newK (z := [.int .i16 0, .int .i16 0]) (C := [.int .i16 0, .int .i16 0]) (n := 2) Tryd.func36 rfl rfl (by decide) rfl Tryd.call68 mcM allocM rfl rfl (by decide) defM w
theorem hasV0 {ver : Int} (h : 0 ≤ ver) : hasV 0 none ver = true := by simp [hasV, h]
theorem ok (ver : Int) (h0 : 0 ≤ ver) (h1 : ver ≤ 0) : okS ver false schControlRecordKeyR = true := by
  have h : ver = 0 := by omega
  rcases h with rfl
  all_goals decide +kernel
theorem fresh : Fresh [.int .i16 0, .int .i16 0] 0 schControlRecordKeyR := by
  unfold schControlRecordKeyR
  simp only [Fresh]
  (repeat' apply And.intro) <;> first | rfl | trivial | exact Nat.le_of_ble_eq_true rfl
set_option maxHeartbeats 1600000 in
theorem readF (E : Value) (w : World) (b : Nat) (src : Value) (bs : List UInt8) (hlow : ∀ n r, rdInt 2 32768 bs = some (n, r) → 0 ≤ n) (hB : Blk w b [.int .i16 0, .int .i16 0] 61) (hs : RB [b] w src bs) (hbs : bs.length ≤ lim) (hE : w.cell? ⟨1, 0, none⟩ = some E) (hgE : 1 ≠ b) :
    Calls Tryd.prog 37 #[.pointer (some ⟨b, 0, none⟩), src] w (KeptPost TagMem E (fun _ => false) schControlRecordKeyR b 0 0 bs w) := by
  have C := Lib.hid (readControlRecordKey E w b 0 61 [.int .i16 0, .int .i16 0] src bs hB fresh ⟨_, hB.cell_some rfl⟩ hlow hs hbs hE hgE)
  obtain ⟨sa, sc, rfl, -⟩ : ∃ a cap, src = .slice a bs.length cap ∧ True := by obtain ⟨a, cap, h, -⟩ := hs; exact ⟨a, cap, h, trivial⟩
  clear hB hs hbs hE hlow
  go_enter Tryd.func37, Tryd.ntmps37
  go_wp2_with fail
  refine C.out.mono ?_
  intro e w' hp
  obtain ⟨v, rfl⟩ : ∃ v, e = .returned v := ⟨_, hp.1⟩
  have HP := Lib.hid hp
  clear hp C
  go_wp2
  go_ret
  exact HP.out
set_option maxRecDepth 100000 in
set_option maxHeartbeats 3200000 in
theorem again (tE : TypeId) (vE : Value) (w : World) (src : Value) (bs : List UInt8) (hlow : ∀ n r, rdInt 2 32768 bs = some (n, r) → 0 ≤ n) (hs : RB [] w src bs) (hbs : bs.length ≤ lim) (hap : ∀ ver gv r, rdK (fun _ => false) schControlRecordKeyR bs = some ((ver, gv), r) → (be16 ver ++ ap ver ((fun _ => false) ver) schControlRecordKeyR gv).length ≤ lim) (hE : w.cell? ⟨1, 0, none⟩ = some (.iface tE vE)) :
    Calls Tryd.prog 18 #[src] w (AgainPostK (fun _ => false) schControlRecordKeyR bs w) := by
  obtain ⟨sa, sc, rfl, -⟩ : ∃ a cap, src = .slice a bs.length cap ∧ True := by obtain ⟨a, cap, h, -⟩ := hs; exact ⟨a, cap, h, trivial⟩
  have hgl := World.block_lt_of_cell? w _ hE
  have H := Lib.hid (And.intro hs (And.intro hbs (And.intro hE (And.intro hgl hlow))))
  have HAP := Lib.hid hap
  clear hs hbs hE hgl hap hlow
  go_enter Tryd.func18, Tryd.ntmps18
  go_wp2_with fail
  refine (newM _).mono ?_
  rintro e w1 ⟨rfl, hb1⟩
  have z1 := hb1.size
  go_wp2_with (at_builtin; refine halted ?_)
  have hB := Blk.alloc_new w1 [.int .i16 0, .int .i16 0] 61
  have hbel := hb1.alloc z1 (.cells [.int .i16 0, .int .i16 0].toArray 61)
  generalize (w1.alloc (.cells [.int .i16 0, .int .i16 0].toArray 61)) = w2 at *
  have Z := Lib.hid (And.intro hB hbel)
  clear hB hbel hb1
  refine wpl_append_from bt rfl _ _ rfl (w1.heap.size + 1) [] (World.ownsRow_nil ..) (by have := Z.out.1.lt; omega) bs (Src.ofRB Tryd.underlying22 (H.out.1.keeps (Keeps.of_below Z.out.2 (Nat.le_refl _)))) (by have := H.out.2.1; simp; omega) ?_
  intro v3 w3 hown3 hbel3
  rw [List.nil_append] at hown3
  obtain ⟨ya, yc, hv3⟩ := own_shape hown3
  have hB3 : Blk w3 w1.heap.size [.int .i16 0, .int .i16 0] 61 := Z.out.1.below hbel3 (by omega)
  have hE3 : w3.cell? ⟨1, 0, none⟩ = some (.iface tE vE) := ((Z.out.2.trans (hbel3.mono (by omega))).cell (p := ⟨1, 0, none⟩) H.out.2.2.2.1).trans H.out.2.2.1
  have C := Lib.hid (readF (.iface tE vE) w3 w1.heap.size v3 bs H.out.2.2.2.2 hB3 (hown3.rb [w1.heap.size] (by simp)) H.out.2.1 hE3 (by have := H.out.2.2.2.1; omega))
  have Y := Lib.hid (And.intro hbel3 hB3)
  generalize bs.length = yn at hv3
  subst hv3
  clear hown3 hbel3 hB3 hE3
  go_wp2_with fail
  refine C.out.mono ?_
  intro e w4 hp
  obtain ⟨rfl, hk4, hg4⟩ := hp
  have b34 : Below w.heap.size w3 w4 := hk4.below (by have := Y.out.2.lt; omega) (by simp; omega)
  have b04 : Below w.heap.size w w4 := (Z.out.2.trans (Y.out.1.mono (by omega))).trans b34
  cases hrd : rdK (fun _ => false) schControlRecordKeyR bs with
  | none =>
    have HN := Lib.hid (And.intro hrd b04)
    clear C hk4 hg4 hrd b34 b04
    simp only [Option.isSome_none, Bool.false_eq_true, if_false]
    go_wp2
    go_ret2
    exact ⟨HN.out.2, fun _ => rfl, fun ver v r hx => by rw [HN.out.1] at hx; cases hx⟩
  | some q =>
    obtain ⟨⟨ver, gv⟩, r⟩ := q
    obtain ⟨hrep, hver⟩ := hg4 ver gv r hrd
    obtain ⟨hv1, hv2, r', hr'⟩ := rdK_ver hrd
    have hv0 : 0 ≤ ver := H.out.2.2.2.2 ver r' hr'
    have hap : ap ver ((fun _ => false) ver) schControlRecordKey (.cons (.int ver) gv) = be16 ver ++ ap ver ((fun _ => false) ver) schControlRecordKeyR gv := apK hv0
    have hal : (ap ver ((fun _ => false) ver) schControlRecordKey (.cons (.int ver) gv)).length ≤ lim := by rw [hap]; exact HAP.out ver gv r hrd
    have C2 := Lib.hid (appendControlRecordKey w4 ver (hasV0 hv0) w1.heap.size 0 (.cons (.int ver) gv) hver (repK hrep hver hv1 hv2) hal)
    have HS := Lib.hid (And.intro hrd (And.intro b04 hap))
    clear C hk4 hg4 hrd b34 b04 hrep hver hal hap
    simp only [Option.isSome_some, if_true]
    go_wp2_with fail
    refine C2.out.mono ?_
    rintro e w5 ⟨x, rfl, hown5, hb5⟩
    have X5 := Lib.hid (And.intro hown5 hb5)
    clear C2 hown5 hb5
    go_wp2
    go_ret2
    refine ⟨HS.out.2.1.trans (X5.out.2.mono HS.out.2.1.size), fun hx => (by rw [HS.out.1] at hx; cases hx), fun ver' v r hx => ?_⟩
    rw [HS.out.1] at hx
    cases hx
    refine ⟨_, rfl, ?_⟩
    have := X5.out.1.mono HS.out.2.1.size
    rwa [HS.out.2.2] at this


theorem agr (ver : Int) (h0 : 0 ≤ ver) (h1 : ver ≤ 0) : agree ver false schControlRecordKeyR false 0 (-1) 0 fs17 = true := by
  have h : ver = 0 := by omega
  rcases h with rfl
  all_goals decide +kernel
theorem keep5 {n g : Nat} {w w' : World} {v0 v1 v2 v3 v4 : Value} (hb : Below n w w') (hg : g < n) (h : w.cell? ⟨g, 0, none⟩ = some v0 ∧ w.cell? ⟨g, 1, none⟩ = some v1 ∧ w.cell? ⟨g, 2, none⟩ = some v2 ∧ w.cell? ⟨g, 3, none⟩ = some v3 ∧ w.cell? ⟨g, 4, none⟩ = some v4) :
    w'.cell? ⟨g, 0, none⟩ = some v0 ∧ w'.cell? ⟨g, 1, none⟩ = some v1 ∧ w'.cell? ⟨g, 2, none⟩ = some v2 ∧ w'.cell? ⟨g, 3, none⟩ = some v3 ∧ w'.cell? ⟨g, 4, none⟩ = some v4 :=
  ⟨(hb.cell (p := ⟨g, 0, none⟩) hg).trans h.1, (hb.cell (p := ⟨g, 1, none⟩) hg).trans h.2.1, (hb.cell (p := ⟨g, 2, none⟩) hg).trans h.2.2.1, (hb.cell (p := ⟨g, 3, none⟩) hg).trans h.2.2.2.1, (hb.cell (p := ⟨g, 4, none⟩) hg).trans h.2.2.2.2⟩

set_option maxRecDepth 100000 in
set_option maxHeartbeats 6400000 in
theorem law (n : Int) (h0 : 0 ≤ n) (h1 : n ≤ 255) (m : Int) (hm0 : 0 ≤ m) (hm1 : m ≤ 65535) (tE : TypeId) (vE : Value) (w : World) (c : List Value) (t : Tree) (ht : RepT w.heap.size w c t) (hE : w.cell? ⟨1, 0, none⟩ = some (.iface tE vE))
    (hsz : ∀ ver : Int, (fixed ver 2 ++ pPart ver false fs17 t).length ≤ lim) : Calls Tryd.prog 5 #[.int .u8 n, .agg c.toArray, .int .u16 m] w fun e w' => e = .returned (.bool true) ∧ Below w.heap.size w w' := by
  obtain ⟨ver, hv⟩ : ∃ ver, n % 1 = ver := ⟨_, rfl⟩
  have hv0 : 0 ≤ ver := by omega
  have hv1 : ver ≤ 0 := by omega
  have hlen := hsz ver
  obtain ⟨gv, hrd, hgap, hcut⟩ := treeRdK (fl := (fun _ => false)) hv0 (by omega) (ok ver hv0 hv1) (agr ver hv0 hv1) t ht.tw
  obtain ⟨bs, hbs⟩ : ∃ bs, fixed ver 2 ++ pPart ver false fs17 t = bs := ⟨_, rfl⟩
  have hpos : 2 ≤ bs.length := by rw [← hbs, List.length_append, show (fixed ver 2).length = 2 by simp [fixed, be16]]; omega
  have hgl := World.block_lt_of_cell? w _ hE
  have hb1 := (Below.refl w.heap.size w).alloc (Nat.le_refl _)
  obtain ⟨sv, lv, uv, rfl, -, ⟨sa, sc, rfl, -⟩, ⟨la, lc, lf, rfl, -⟩, ⟨ua, uc, rfl, -⟩⟩ := ht.parts
  have hb1 := hb1 (.cells #[.int .i64 t.n, .slice sa t.s.length sc, .bool t.null, .slice la t.l.length lc, .slice ua t.u.length uc] 26)
  have hs1 : (w.alloc (.cells #[.int .i64 t.n, .slice sa t.s.length sc, .bool t.null, .slice la t.l.length lc, .slice ua t.u.length uc] 26)).heap.size = w.heap.size + 1 := by simp
  have hbx := Blk.alloc_new w [.int .i64 t.n, .slice sa t.s.length sc, .bool t.null, .slice la t.l.length lc, .slice ua t.u.length uc] 26
  have H := Lib.hid (And.intro ht (And.intro hE (And.intro hgl (And.intro hb1 hbx))))
  have K := Lib.hid (And.intro hrd (And.intro hgap (And.intro hcut hbs)))
  have hlb : bs.length ≤ lim := by rw [← hbs]; exact hlen
  have hlo : ∀ l : List UInt8, l <+: bs → ∀ n r, rdInt 2 32768 l = some (n, r) → 0 ≤ n := fun l hl n r h => by
    obtain ⟨s, rfl⟩ := hl
    have h1 := (Mono.int 2 32768) l _ _ s h
    have h2 : rdInt 2 32768 (fixed ver 2 ++ pPart ver false fs17 t) = some (ver, pPart ver false fs17 t) := by
      rw [show fixed ver 2 = be16 ver by simp [fixed]]
      exact Exact.int2 (by omega) (by omega) _
    rw [← hbs, h2] at h1
    have h3 : ver = n := congrArg Prod.fst (Option.some.inj h1)
    omega
  have HL := Lib.hid hlo
  clear ht hE hgl hb1 hbx hrd hgap hcut hbs hsz hlen hlo
  go_enter Tryd.func5, Tryd.ntmps5
  go_wp2_with fail
  refine (zFits2 t _ w.heap.size (w.alloc (.cells #[.int .i64 t.n, .slice sa t.s.length sc, .bool t.null, .slice la t.l.length lc, .slice ua t.u.length uc] 26)).heap.size (w.alloc (.cells #[.int .i64 t.n, .slice sa t.s.length sc, .bool t.null, .slice la t.l.length lc, .slice ua t.u.length uc] 26)) (by omega) (Nat.le_refl _) (H.out.1.keep H.out.2.2.2.1)).mono ?_
  rintro e w2 ⟨⟨b, rfl⟩, hb2⟩
  have hb2' : Below w.heap.size w w2 := H.out.2.2.2.1.trans (hb2.mono (by omega))
  have z2 := hb2.size
  obtain ⟨t0, t1, t2, t3, t4⟩ := boxT (H.out.2.2.2.2.below hb2 (by omega))
  have Z2 := Lib.hid hb2'
  clear hb2 hb2'
  cases b
  · go_wp2
    go_ret
    exact ⟨rfl, Z2.out⟩
  have c : w2.drew.cell? ⟨w.heap.size, 0, none⟩ = some (.int .i64 t.n) ∧ w2.drew.cell? ⟨w.heap.size, 1, none⟩ = some (.slice sa t.s.length sc) ∧ w2.drew.cell? ⟨w.heap.size, 2, none⟩ = some (.bool t.null) ∧ w2.drew.cell? ⟨w.heap.size, 3, none⟩ = some (.slice la t.l.length lc) ∧ w2.drew.cell? ⟨w.heap.size, 4, none⟩ = some (.slice ua t.u.length uc) := ⟨t0, t1, t2, t3, t4⟩
  have hC := Lib.hid c
  have Z3 := Lib.hid (And.intro Z2.out.drew z2)
  clear c t0 t1 t2 t3 t4
  go_wp2_with fail
  go_region_held3 (fun w' => w'.cell? ⟨w.heap.size, 0, none⟩ = some (.int .i64 t.n) ∧ w'.cell? ⟨w.heap.size, 1, none⟩ = some (.slice sa t.s.length sc) ∧ w'.cell? ⟨w.heap.size, 2, none⟩ = some (.bool t.null) ∧ w'.cell? ⟨w.heap.size, 3, none⟩ = some (.slice la t.l.length lc) ∧ w'.cell? ⟨w.heap.size, 4, none⟩ = some (.slice ua t.u.length uc))
    (first | exact hC.out | exact hS5 | exact hS6)
    (first
      | (go_at_call 17; refine (gives17 _).mono ?_; rintro e w5 ⟨fv, rfl, hf, hb5⟩; have hS5 := keep5 hb5 (by show w.heap.size < w2.heap.size; omega) hC.out; have z5 := hb5.size; have z5 : w2.heap.size ≤ w5.heap.size := z5; obtain ⟨fa, fcap, rfl, -⟩ := id hf; have b05 : Below w.heap.size w w5 := Z3.out.1.trans (hb5.mono (by show w.heap.size ≤ w2.heap.size; omega)))
      | (go_at_call 16; rw [show Value.int IntKind.i64 (0 : Int) = Value.int IntKind.i64 ver from by rw [show ver = 0 by omega]]; refine (spKept fs17 fsTag fsOpt ver (-1) t false (by simp) w5.heap.size w5.heap.size w5 _ _ (Nat.le_refl _) (Nat.le_refl _) hf ((H.out.1.keep b05).upB (by omega)) (by rw [K.out.2.2.2]; exact hlb)).mono ?_; rintro e w6 ⟨x6, rfl, hown6, hb6⟩; have hS6 := keep5 hb6 (by omega) hS5; have z6 := hb6.size))
  rw [K.out.2.2.2] at hown6
  have b06 : Below w.heap.size w w6 := b05.trans (hb6.mono (by omega))
  have hE6 : w6.cell? ⟨1, 0, none⟩ = some (.iface tE vE) := (b06.cell (p := ⟨1, 0, none⟩) H.out.2.2.1).trans H.out.2.1
  have hrd : rdK (fun _ => false) schControlRecordKeyR bs = some ((ver, gv), []) := by rw [← K.out.2.2.2]; exact K.out.1
  have HAP : ∀ ver' gv' r, rdK (fun _ => false) schControlRecordKeyR bs = some ((ver', gv'), r) → (be16 ver' ++ ap ver' ((fun _ => false) ver') schControlRecordKeyR gv').length ≤ lim := by
    intro ver' gv' r hx
    rw [hrd] at hx
    cases hx
    have := K.out.2.1
    rw [K.out.2.2.2] at this
    exact Nat.le_trans (Nat.le_of_eq (congrArg List.length this)) hlb
  have C7 := Lib.hid (again tE vE w6 x6 bs (HL.out bs (List.prefix_refl _)) (hown6.rb [] (by simp)) hlb HAP hE6)
  obtain ⟨xa, xcap, hx6⟩ := own_shape hown6
  have Z6 := Lib.hid (And.intro hown6 (And.intro b06 (And.intro hrd (And.intro HAP hE6))))
  obtain ⟨L, hL⟩ : ∃ L, bs.length = L := ⟨_, rfl⟩
  rw [hL] at hx6
  subst hx6
  clear hown6 b06 hb6 hS5 hS6 hE6 hrd HAP hf hb5 b05
  go_wp2_with fail
  refine C7.out.mono ?_
  intro e w7 hp
  obtain ⟨b67, -, hg⟩ := hp
  obtain ⟨y, rfl, hown7⟩ := hg ver gv [] Z6.out.2.2.1
  have hap7 : be16 ver ++ ap ver ((fun _ => false) ver) schControlRecordKeyR gv = bs := by rw [← K.out.2.2.2]; exact K.out.2.1
  rw [hap7] at hown7
  have z7 := b67.size
  have hx7 : Own w5.heap.size w7 (.slice xa L xcap) bs := Z6.out.1.stay b67 (Nat.le_refl _)
  obtain ⟨ya, yc, hy⟩ := own_shape hown7
  rw [hL] at hy
  subst hy
  have hE7 : w7.cell? ⟨1, 0, none⟩ = some (.iface tE vE) := (b67.cell (p := ⟨1, 0, none⟩) (World.block_lt_of_cell? w6 _ Z6.out.2.2.2.2)).trans Z6.out.2.2.2.2
  have B7 := Lib.hid (And.intro (Z6.out.2.1.trans (b67.mono Z6.out.2.1.size)) (And.intro (hx7.rb [] (by simp)) hE7))
  clear b67 hg hown7 hx7 C7 hE7
  have hL0 : 2 ≤ L := by omega
  obtain ⟨xb, xo, hxa, hxc, hxd⟩ : ∃ xb xo, xa = some ⟨xb, xo, none⟩ ∧ L ≤ xcap ∧ xcap ≤ 9223372036854775807 := by
    obtain ⟨a', c', hv, hc, hd, hr⟩ := B7.out.2.1
    cases hv
    obtain ⟨b, o, ha, -⟩ := hr (by intro e; rw [e] at hpos; simp at hpos)
    exact ⟨b, o, ha, by omega, hd⟩
  subst hxa
  obtain ⟨k, hk⟩ : ∃ k : Nat, m % (L : Nat) = (k : Int) := ⟨(m % (L : Nat)).toNat, by have := Int.emod_nonneg m (b := (L : Nat)) (by omega); omega⟩
  have hkL : k < L := by have := Int.emod_lt_of_pos m (b := (L : Nat)) (by omega); omega
  have hcutk : rdK (fun _ => false) schControlRecordKeyR (bs.take k) = none := by rw [← K.out.2.2.2]; exact K.out.2.2.1 k (by rw [K.out.2.2.2]; omega)
  have htl : (bs.take k).length = k := by rw [List.length_take]; omega
  have hrbk : RB [] w7 (.slice (some ⟨xb, xo, none⟩) k xcap) (bs.take k) := RB.cut B7.out.2.1 (by omega)
  have C9 := Lib.hid (again tE vE w7 (.slice (some ⟨xb, xo, none⟩) k xcap) (bs.take k) (HL.out _ (List.take_prefix _ _)) hrbk (by omega) (fun ver' gv' r hx => by rw [hcutk] at hx; cases hx) B7.out.2.2)
  have HC := Lib.hid hcutk
  have hmt : m.tmod (L : Nat) = (k : Int) := by rw [Int.tmod_eq_emod_of_nonneg hm0]; exact hk
  have hk1 : (0 : Int) ≤ (k : Nat) := by omega
  have hk2 : ((k : Nat) : Int) ≤ (xcap : Nat) := by omega
  have hk5 : (0 : Int) ≤ m % (L : Nat) := by rw [hk]; exact hk1
  have hk6 : m % (L : Nat) ≤ (xcap : Nat) := by rw [hk]; exact hk2
  have hL1 : ¬ ((L : Nat) : Int) = 0 := by omega
  have hL2 : (0 : Int) < (L : Nat) := by omega
  have hw1 : IntKind.i64.wrap (m.tmod (L : Nat)) = (k : Int) := by rw [hmt, IntKind.wrap_i64]; omega
  have hw2 : IntKind.i64.wrap (m % (L : Nat)) = (k : Int) := by rw [hk, IntKind.wrap_i64]; omega
  have hw3 : IntKind.i64.wrap m = m := by rw [IntKind.wrap_i64]; omega
  have hk3 : (0 : Int) ≤ m.tmod (L : Nat) := by rw [hmt]; exact hk1
  have hk4 : m.tmod (L : Nat) ≤ (xcap : Nat) := by rw [hmt]; exact hk2
  clear hrbk hcutk
  go_wp2_with fail
  refine C9.out.mono ?_
  intro e w9 hp9
  obtain ⟨b79, hn9, -⟩ := hp9
  obtain rfl := hn9 HC.out
  have B9 := Lib.hid (B7.out.1.trans (b79.mono (by exact B7.out.1.size)))
  clear b79
  go_wp2
  go_ret
  exact ⟨rfl, B9.out⟩

end Go.Proofs.YtfchajjllhndlaaDoor.cutControlRecordKey
