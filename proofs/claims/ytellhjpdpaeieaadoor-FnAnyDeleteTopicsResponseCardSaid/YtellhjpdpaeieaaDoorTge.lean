/- Unknown tags: all, written. -/
import Derived.Test.YtellhjpdpaeieaaDoorTgd
namespace Go.Proofs.YtellhjpdpaeieaaDoor
open Go Go.RowKit Go.Maps
set_option linter.unusedVariables false

theorem u32Info : (Tryd.prog.info? 56).map (fun i => (i.zero, i.size, i.bytes)) = some (some (.int .u32 0), 1, 4) := by kernel_rfl
abbrev encK (k : Nat) : Value := .int .u32 (k : Nat)
/-- What is asked of sort.Slice. -/
def SortSpec : Prop := ∀ (w : World) (z c p : Nat) (ks : List Nat) (cur : Array Value), w.heap[z]? = some (.cells cur 56 (0, 0)) → cur.toList.take ks.length = ks.map encK → Blk w p [.slice (some ⟨z, 0, none⟩) ks.length c] 117 → ks.length < 4294967296 →
  Calls Tryd.prog 120 #[.iface 117 (.slice (some ⟨z, 0, none⟩) ks.length c), .func (.func 121) #[] #[.pointer (some ⟨p, 0, none⟩)]] w fun e w' =>
    e = .returned (.tuple #[]) ∧ ∃ (ks' : List Nat) (cur' : Array Value), ks'.Perm ks ∧ ks'.Pairwise (· ≤ ·) ∧ w'.heap[z]? = some (.cells cur' 56 (0, 0)) ∧ cur'.toList.take ks.length = ks'.map encK ∧ w.grownBy w' (some z)
def EachPost (w0 w : World) (q : Nat) (bs : List UInt8) (e : Ending) (w' : World) : Prop := e = .returned (.tuple #[]) ∧ ∃ x', Blk w' q [x'] 22 ∧ Own w0.heap.size w' x' bs ∧ Below w0.heap.size w w'
/-- The keys that were met so far. -/
def Coll (D : VD) (left : Lit → Bool) (ss : List Nat) : Prop := ss.Nodup ∧ ∀ k, k ∈ ss ↔ (Maps.has D (kl32 k) = true ∧ left (kl32 k) = false)
theorem Coll.start (D : VD) : Coll D (Maps.has D) [] := ⟨List.nodup_nil, fun x => by cases Maps.has D (kl32 x) <;> simp⟩
theorem Coll.step {D : VD} {left : Lit → Bool} {ss : List Nat} (h : Coll D left ss) {x : Nat} {y : VD} (hlk : left (kl32 x) = true) (hat : ∀ zd, D.atKey (kl32 x) zd = y) : Coll D (fun z => left z && !z.sameKey (kl32 x)) (ss ++ [x]) := by
  have hhas : Maps.has D (kl32 x) = true := has_true_of_atKey hat
  have hnew : x ∉ ss := fun hx => by have := ((h.2 x).1 hx).2; rw [hlk] at this; cases this
  refine ⟨List.nodup_append.2 ⟨h.1, by simp, fun a ha b hb => by simp at hb; subst hb; exact fun e => hnew (e ▸ ha)⟩, fun y => ?_⟩
  by_cases hy : y = x
  · subst hy
    have : (kl32 y).sameKey (kl32 y) = true := WideAt.sameKey_self (kl32_key y)
    simp [hhas, this]
  · have : (kl32 y).sameKey (kl32 x) = false := Maps.sameKey_ne fun e => hy (kl32_inj.1 e)
    simp [h.2 y, hy, this]
theorem Coll.sorted {D : VD} {left : Lit → Bool} {ss ks : List Nat} {O : List Nat} {w : World} {l : List (Nat × List UInt8)} (h : Coll D left ss) (hl : ∀ kl, left kl = false) (hv : View O w D l) (hp : ks.Perm ss) (hs : ks.Pairwise (· ≤ ·)) : ks = l.map (·.1) := by
  have hpl : ss.Perm (l.map (·.1)) := by
    refine (List.perm_ext_iff_of_nodup h.1 ?_).2 fun k => ?_
    · exact List.pairwise_map.2 (hv.sorted.imp fun {p q} hlt => by omega)
    · rw [h.2 k, hl]
      simp only [and_true, List.mem_map]
      constructor
      · intro hh
        obtain ⟨k', bs', e, hm⟩ := hv.only _ hh
        exact ⟨_, hm, (kl32_inj.1 e).symm⟩
      · rintro ⟨⟨k', bs'⟩, hm, rfl⟩
        exact (hv.there _ _ hm).1
  refine List.Perm.eq_of_pairwise (le := (· ≤ ·)) (fun a b _ _ h1 h2 => Nat.le_antisymm h1 h2) hs ?_ (hp.trans hpl)
  exact List.pairwise_map.2 (hv.sorted.imp fun {p q} hlt => by omega)
/-- The first loop, behind some rounds. -/
structure EInv (g p4 r n H : Nat) (D : VD) (L : Nat) (w wr : World) (left : Lit → Bool) (cnt : Nat) (ss : List Nat) (a : Option Addr) (c : Nat) : Prop where
  hrg : wr.ranges Tryd.prog 56 R0 g r n D left cnt
  le : ss.length + cnt ≤ L
  box : Blk wr p4 [.slice a ss.length c] 117
  row : wr.ownsRow H 56 1 (.slice a ss.length c) ss.length (ss.map encK)
  nn : a ≠ none
  coll : Coll D left ss
  below : Below H w wr
/-- The second loop. -/
structure EInv2 (q z H : Nat) (l : List (Nat × List UInt8)) (bs : List UInt8) (cur : Array Value) (w0 w wr : World) (k : Nat) (v x : Value) : Prop where
  le : k ≤ l.length
  val : v = .int .i64 (k : Nat)
  blk : Blk wr q [x] 22
  own : Own w0.heap.size wr x (bs ++ apTags (l.take k))
  below : Below w0.heap.size w wr
  row : wr.heap[z]? = some (.cells cur 56 (0, 0))
theorem apTags_snoc (l : List (Nat × List UInt8)) (k : Nat) (t : Nat × List UInt8) (h : l[k]? = some t) : apTags (l.take (k + 1)) = apTags (l.take k) ++ apTags [t] := by
  rw [List.take_add_one, h]
  simp [apTags]
theorem apTags_take (l : List (Nat × List UInt8)) (k : Nat) : (apTags (l.take k)).length ≤ (apTags l).length := by
  have e : apTags l = apTags (l.take k) ++ apTags (l.drop k) := by
    unfold apTags
    rw [← List.flatMap_append, List.take_append_drop]
  rw [e, List.length_append]
  omega
theorem row_block {w : World} {base e n : Nat} {v : Value} {xs : List Value} {k : Nat} (h : w.ownsRow base e 1 v n xs) (hk : v.ownBlock = some k) : ∃ cur, w.heap[k]? = some (.cells cur e (0, 0)) ∧ base ≤ k := by
  rcases h.2 with ⟨rfl, -⟩ | ⟨g, cap, cur, rfl, h1, h2, -⟩
  · cases hk
  · cases hk; exact ⟨cur, h2, h1⟩
theorem iter_ne {w : World} {base e n m b r : Nat} {v : Value} {xs : List Value} {D : VD} {left : Lit → Bool} {cnt : Nat} {P : Program} {k : TypeId} {R : Value → Option (VD × List MemPlace)} (h : w.ownsRow base e 1 v n xs) (hr : w.ranges P k R b r m D left cnt) : v.ownBlock ≠ some r := fun he => by
  obtain ⟨cur, h1, -⟩ := row_block h he
  obtain ⟨_, _, _, _, _, _, _, _, _, hit, _⟩ := hr
  rw [h1] at hit
  cases hit
theorem map_ne {w : World} {base e n m b : Nat} {v : Value} {xs : List Value} {D : VD} {P : Program} {k : TypeId} {R : Value → Option (VD × List MemPlace)} (h : w.ownsRow base e 1 v n xs) (hr : w.ownsMap P k R b m D) : v.ownBlock ≠ some b := fun he => by
  obtain ⟨cur, h1, -⟩ := row_block h he
  obtain ⟨_, _, hit, _⟩ := hr
  rw [h1] at hit
  cases hit
theorem blk_ne {w : World} {base e n p T : Nat} {v : Value} {xs c : List Value} (h : w.ownsRow base e 1 v n xs) (hB : Blk w p c T) (hT : T ≠ e) : v.ownBlock ≠ some p := fun he => by
  obtain ⟨cur, h1, -⟩ := row_block h he
  unfold Blk at hB
  rw [h1] at hB
  simp at hB
  exact hT hB.2.symm
theorem keyK {key : Value} {kl : Lit} (h : keyOf Tryd.prog 56 key = some kl) : ∃ x : Nat, key = encK x ∧ kl = kl32 x ∧ x ≤ 4294967295 := by
  obtain ⟨x, rfl, rfl, hw⟩ := Maps.keyOf_int_inv Tryd.underlying56 h
  unfold Lit.wf at hw
  simp [IntKind.min, IntKind.max, IntKind.bits, IntKind.signed] at hw
  have hx : ((x.toNat : Nat) : Int) = x := Int.toNat_of_nonneg hw.1
  refine ⟨x.toNat, ?_, ?_, by omega⟩
  · unfold encK; rw [hx]
  · unfold kl32; rw [hx]
theorem encK_inj {a b : Nat} (h : encK a = encK b) : a = b := by
  unfold encK at h
  simp at h
  omega
theorem grown_setCell (w : World) (p i : Nat) (u : Value) : w.grownBy (w.setCell ⟨p, i, none⟩ u) (some p) :=
  ⟨rfl, rfl, rfl, by simp [World.setCell], fun k _ hk => Below.heap_setCell _ _ _ _ (fun e => hk (by first | exact congrArg some e | exact congrArg some e.symm))⟩
theorem row_shape {w : World} {base e n : Nat} {v : Value} {xs : List Value} (h : w.ownsRow base e 1 v n xs) (hn : v ≠ .slice none 0 0) : ∃ a c, v = .slice a n c ∧ a ≠ none := by
  rcases h.2 with ⟨rfl, -⟩ | ⟨g, cap, cur, rfl, -⟩
  · exact absurd rfl hn
  · exact ⟨_, _, rfl, by simp⟩
theorem zeroBytes (w : World) : (zeroValue 22).run Tryd.prog w = .ok (.slice none 0 0) w := by kernel_rfl
set_option maxRecDepth 100000 in
set_option maxHeartbeats 2000000 in
theorem tagsEach (hS : SortSpec) {w0 w : World} {b o q : Nat} {x : Value} {bs : List UInt8} {l : List (Nat × List UInt8)} (h : TagMem [] w0 b o l) (hB : Below w0.heap.size w0 w) (hq : w0.heap.size ≤ q) (hblk : Blk w q [x] 22) (hown : Own w0.heap.size w x bs) (hl : bs.length + (apTags l).length ≤ lim) :
    Calls Tryd.prog 86 #[.pointer (some ⟨b, o, none⟩), .func (.func 87) #[] #[.pointer (some ⟨q, 0, none⟩)]] w (EachPost w0 w q (bs ++ apTags l)) := by
  obtain ⟨m, n, D, hc, hm, hn, hv, -, hl6, hl7⟩ := h
  have m0 : w.cell? ⟨b, o, none⟩ = some (.map m) := (hB.cell (p := ⟨b, o, none⟩) (World.block_lt_of_cell? w0 _ hc)).trans hc
  have hsz := hv.size
  cases m with
  | none =>
    cases hm
    have hl0 : l = [] := List.eq_nil_of_length_eq_zero (by rw [← hsz]; rfl)
    subst hl0
    have hE : EachPost w0 w q (bs ++ apTags []) (.returned (.tuple #[])) w := ⟨rfl, x, hblk, by simpa [apTags] using hown, Below.refl _ _⟩
    have HE := Lib.hid hE
    clear hc hn hv hsz hB hblk hown hE hl6 hl7 hl
    go_enter Tryd.func86, Tryd.ntmps86
    go_wp2
    go_end0
    exact HE.out
  | some g =>
    have hm' : w0.ownsMap Tryd.prog 56 R0 g n D := hm
    have hgl := World.ownsMap.lt hm'
    have hown1 : w.ownsMap Tryd.prog 56 R0 g n D := ownsMap_block hm' (hB.block g hgl)
    by_cases hl0 : l = []
    · subst hl0
      have hE : EachPost w0 w q (bs ++ apTags []) (.returned (.tuple #[])) w := ⟨rfl, x, hblk, by simpa [apTags] using hown, Below.refl _ _⟩
      have HE := Lib.hid hE
      have hz : Maps.size D = 0 := hsz
      clear hc hn hv hsz hB hblk hown hE hl6 hl7 hl hm hm'
      go_enter Tryd.func86, Tryd.ntmps86
      go_wp2_with (first
        | (at_len; refine wpList_len_own _ rfl _ 48 rfl 56 22 Tryd.underlying48 _ g n D rfl hown1 ?_; rw [hz])
        | go_in)
      go_end0
      exact HE.out
    · have hlen : 0 < l.length := List.length_pos_iff.2 hl0
      obtain ⟨i0, hi, hz0, hz1, hz2⟩ := info_parts u32Info
      have hlz : ((l.length : Nat) : Int) ≠ 0 := by omega
      have hmax : l.length ≤ maxLen := by unfold maxLen; omega
      have hby : i0.bytes * l.length ≤ 281474976710656 := by rw [hz2]; omega
      have hqlt := hblk.lt
      have X := Lib.hid (And.intro hc (And.intro hm' (And.intro hn (And.intro hv (And.intro hsz (And.intro hB (And.intro hblk (And.intro hown (And.intro hl (And.intro hl6 (And.intro hl7 (And.intro hgl hlen))))))))))))
      clear hc hm hm' hn hv hB hblk hown hl hl6 hl7
      have hgw : g < w.heap.size := hown1.lt
      have I := Lib.hid (And.intro hi (And.intro hz0 (And.intro hz1 (And.intro hz2 (And.intro hby (And.intro hmax (And.intro hown1 (And.intro hgw hqlt))))))))
      clear hi hz0 hz1 hz2 hby hmax hown1 hgw hqlt
      have hsz' := Lib.hid hsz
      clear hsz
      go_enter Tryd.func86, Tryd.ntmps86
      go_wp2_with (first
        | (at_len; refine wpList_len_own _ rfl _ 48 rfl 56 22 Tryd.underlying48 _ g n D rfl I.out.2.2.2.2.2.2.1 ?_; rw [hsz'.out])
        | (at_make; refine wpList_make_own _ rfl _ _ 117 rfl w.heap.size 56 i0 (.int .u32 0) 1 Tryd.underlying117 I.out.1 I.out.2.1 I.out.2.2.1 _ _ _ l.length rfl rfl rfl I.out.2.2.2.2.1 I.out.2.2.2.2.2.1 (Nat.le_refl _) ?_; intro w1 hrow1 hg1; have m1 : w1.cell? ⟨b, o, none⟩ = some (.map (some g)) := hg1.cell m0 (by simp); have m1' : ∀ ob, (w1.alloc ob).cell? ⟨b, o, none⟩ = some (.map (some g)) := fun ob => (World.cell?_of_block (Below.heap_alloc w1 ob _ (World.block_lt_of_cell? w1 _ m1))).trans m1)
        | (at_range; refine wpList_range_own _ rfl _ 48 rfl 56 22 tagKeyed Tryd.underlying48 _ g n D rfl ((I.out.2.2.2.2.2.2.1.kept hg1 (by simp)).alloc _) ?_; intro w2 hrg2 hg2 hs2)
        | go_in)
      try go_frame
      generalize hr : (w1.alloc (.cells #[.slice (some ⟨w.heap.size, 0, none⟩) 0 l.length] 117)).heap.size = r at *
      have k01 : Keeps [] w w1 := (Keeps.refl [] w).grown hg1 (fun k hk => by cases hk)
      have k12 : Keeps [] w1 w2 := ((Keeps.refl [] w1).alloc _).grown hg2 (fun k hk => by cases hk)
      have p4 : Blk w2 w1.heap.size [.slice (some ⟨w.heap.size, 0, none⟩) 0 l.length] 117 := (hg2.block w1.heap.size (by simp) (by simp)).trans (heap_alloc_new w1 _)
      have hrow2 : w2.ownsRow w.heap.size 56 1 (.slice (some ⟨w.heap.size, 0, none⟩) 0 l.length) 0 [] := (hrow1.alloc _).kept hg2 (.inr (by simp [Value.ownBlock]))
      have hbel2 : Below w.heap.size w w2 := (Keeps.trans k01 k12).below (Nat.le_refl _) (by simp)
      have hI0 : EInv g w1.heap.size r n w.heap.size D l.length w w2 (Maps.has D) (Maps.size D) [] (some ⟨w.heap.size, 0, none⟩) l.length := ⟨hrg2, by rw [hsz'.out]; simp, p4, hrow2, by simp, Coll.start D, hbel2⟩
      have hrr : r = w1.heap.size + 1 := by rw [← hr]; simp
      have RR := Lib.hid (And.intro hg1.size hrr)
      clear hr hrr
      have HI0 := Lib.hid hI0
      have K1 := Lib.hid k01
      clear hrow1 hg1 m1 m1' hrg2 hg2 hs2 k12 p4 hrow2 hbel2 hI0 k01
      go_loopw [] (fun wr => ∃ left cnt ss a c, EInv g w1.heap.size r n w.heap.size D l.length w wr left cnt ss a c) (fun wr => wr.rangeLeft g r)
      case atStart => exact ⟨_, _, _, _, _, HI0.out⟩
      case round =>
        obtain ⟨left, cnt, ss, a, c, hI⟩ := hrel
        have HR := Lib.hid hI
        clear hI HI0
        go_wp2_with (first
          | (at_next; refine wpList_next_ranges _ rfl _ rfl 56 tagKeyed R0 encK (fun v : Value => v) (fun key kl hk => by obtain ⟨x, hx, -⟩ := keyK hk; exact ⟨x, hx⟩) (fun v y hv => ⟨v, rfl⟩) g r n _ _ _ rfl HR.out.hrg ?_ ?_)
          | go_in)
        · intro hc0 hl0
          rcases HR.out.row.2 with ⟨hnil, -⟩ | ⟨z, cap, cur, hve, hbase, hb, h1, h2, h3, h4⟩
          · simp at hnil; exact absurd hnil.1 HR.out.nn
          cases hve
          have hC := hS wr z c w1.heap.size ss cur hb (by simpa using h4) HR.out.box (by have := HR.out.le; have := X.out.2.2.2.2.2.2.2.2.2.1; omega)
          have m5 := HR.out.box.cell_some (i := 0) rfl
          have C := Lib.hid hC
          have L0 := Lib.hid (And.intro hl0 (And.intro hbase hb))
          clear hC hl0 hbase hb h1 h2 h3 h4 hc0
          go_wp2_with fail
          refine C.out.mono ?_
          rintro e w5 ⟨rfl, ks', cur', hperm, hsort, hz5, hc5, hg5⟩
          have hk' : ks' = l.map (·.1) := HR.out.coll.sorted L0.out.1 X.out.2.2.2.1 hperm hsort
          have hll : ss.length = l.length := by rw [← hperm.length_eq, hk', List.length_map]
          have pz : w1.heap.size ≠ z := by
            rintro rfl
            have h := HR.out.box
            unfold Blk at h
            rw [L0.out.2.2] at h
            simp at h
          have box5 : Blk w5 w1.heap.size [.slice (some ⟨z, 0, none⟩) ss.length c] 117 := (hg5.block _ HR.out.box.lt (by simpa using pz)).trans HR.out.box
          have m7 := box5.cell_some (i := 0) rfl
          have bel5 : Below w.heap.size w w5 := HR.out.below.grown hg5 HR.out.below.size (fun j hj => by cases hj; exact L0.out.2.1)
          have W := Lib.hid (And.intro hz5 (And.intro hc5 (And.intro bel5 (And.intro hk' hll))))
          clear C hperm hsort hz5 hc5 hg5 hk' pz box5 bel5 m5
          rw [hll] at m7
          clear hll
          go_wp2
          have hJ0 : EInv2 q z w.heap.size l bs cur' w0 w w5 0 (.int .i64 0) x := by
            have hk5 : Keeps [] w w5 := Keeps.of_below W.out.2.2.1 (Nat.le_refl _)
            refine ⟨by omega, rfl, X.out.2.2.2.2.2.2.1.keeps hk5 (by simp), ?_, hk5.below X.out.2.2.2.2.2.1.size (by simp), W.out.1⟩
            have h0 := World.ownsRow.kept (w' := w5) (row := none) X.out.2.2.2.2.2.2.2.1 ⟨hk5.os, hk5.tape, hk5.output, hk5.size, fun k hk _ => hk5.block k hk (by simp)⟩ (by cases x.ownBlock <;> simp)
            simpa [apTags, Own] using h0
          have HJ0 := Lib.hid hJ0
          clear hJ0
          go_loopw [39] (fun v wr => ∃ k x', EInv2 q z w.heap.size l bs cur' w0 w wr k v x') (fun v _ => l.length - numOf v)
          case atStart => exact ⟨0, x, HJ0.out⟩
          case round =>
            obtain ⟨k, x', hI⟩ := hrel
            obtain rfl := hI.val
            by_cases hk : k < l.length
            · obtain ⟨kk, val, hlk⟩ : ∃ kk val, l[k]? = some (kk, val) := ⟨l[k].1, l[k].2, List.getElem?_eq_getElem hk⟩
              have hmem : (kk, val) ∈ l := List.mem_of_getElem? hlk
              have b0w : Below w0.heap.size w0 wr := X.out.2.2.2.2.2.1.trans hI.below
              have mb : wr.cell? ⟨b, o, none⟩ = some (.map (some g)) := (b0w.cell (p := ⟨b, o, none⟩) (World.block_lt_of_cell? w0 _ X.out.1)).trans X.out.1
              have hown6 : wr.ownsMap Tryd.prog 56 R0 g n D := ownsMap_block X.out.2.1 (b0w.block g hgl)
              have hkk : kk ≤ 4294967295 := X.out.2.2.2.1.small _ hmem
              obtain ⟨-, v', hat, hrb⟩ := X.out.2.2.2.1.there kk val hmem
              obtain ⟨v1, ps, hrun, hv1⟩ := hown6.lookup tagKeyed Tryd.underlying48 (zeroBytes wr) (zd := .held (.slice none 0 0)) (zp := []) rfl (keyOf_int_mk Tryd.underlying56 (kl32_wf hkk))
              rw [show D.atKey (Lit.int .u32 (kk : Nat)) (.held (.slice none 0 0)) = .held v' from hat _] at hv1
              obtain rfl : v1 = v' := by simp [R0] at hv1; exact hv1.1
              have hz3 : l.length = ss.length := W.out.2.2.2.2.symm
              have mz : wr.cell? ⟨z, k, none⟩ = some (.int .u32 (kk : Nat)) := by
                have h1 : cur'[k]? = some (.int .u32 (kk : Nat)) := by
                  have h2 := congrArg (fun q : List Value => q[k]?) W.out.2.1
                  rw [List.getElem?_take_of_lt (by omega), W.out.2.2.2.1] at h2
                  simpa [hlk] using h2
                have h3 : wr.cell? ⟨z, k, none⟩ = cur'[k]? := by simp [World.cell?, hI.row]
                rw [h3, h1]
              have hal : (bs ++ apTags (l.take k)).length + (apTags [(kk, val)]).length ≤ lim := by
                have h1 := apTags_take l (k + 1)
                rw [apTags_snoc l k _ hlk, List.length_append] at h1
                have := X.out.2.2.2.2.2.2.2.2.1
                simp only [List.length_append]
                omega
              have hC6 := tagPut (w0 := w0) (w := wr) (q := q) (k := kk) (x := x') (v := v1) (bs := bs ++ apTags (l.take k)) (val := val) b0w hrb hq hI.blk hI.own hkk (X.out.2.2.2.2.2.2.2.2.2.2.1 _ hmem) hal
              obtain ⟨sad, scap, rfl, -⟩ : ∃ a cap, v1 = .slice a val.length cap ∧ True := by obtain ⟨a, cap, h, -⟩ := hrb; exact ⟨a, cap, h, trivial⟩
              have C6 := Lib.hid hC6
              have HQ := Lib.hid (And.intro hI (And.intro hlk (And.intro b0w hk)))
              have hk0 : (0 : Int) ≤ (k : Nat) := by omega
              have hk1 : ((k : Nat) : Int) < (l.length : Nat) := by omega
              have hk2 : ((l.length : Nat) : Int) ≤ 2147483646 := by have := X.out.2.2.2.2.2.2.2.2.2.1; omega
              clear hC6 hI hlk b0w hown6 hat hrb hv1 hz3 hal hmem hkk HJ0 hk
              go_wp2_with fail
              refine C6.out.mono ?_
              rintro e w6 ⟨rfl, x6, b6, o6, t6, l6⟩
              have hstep : EInv2 q z w.heap.size l bs cur' w0 w w6 (k + 1) (.int .i64 ((k + 1 : Nat) : Int)) x6 := by
                have hI := HQ.out.1
                refine ⟨by have := HQ.out.2.2.2; omega, rfl, b6, ?_, ⟨t6.os.trans hI.below.os, t6.tape.trans hI.below.tape, t6.output.trans hI.below.output, Nat.le_trans hI.below.size t6.size, fun j hj => (l6.block j hj).trans (X.out.2.2.2.2.2.1.block j hj).symm⟩, ?_⟩
                · rw [apTags_snoc l k _ HQ.out.2.1, ← List.append_assoc]; exact o6
                · have hzl : z < wr.heap.size := (Array.getElem?_eq_some_iff.1 hI.row).1
                  refine (t6.block z hzl (by have := L0.out.2.1; have := I.out.2.2.2.2.2.2.2.2; omega) (fun cr fr h => ?_)).trans hI.row
                  rw [hI.row] at h
                  simp at h
              have HS6 := Lib.hid hstep
              clear C6 b6 o6 t6 l6 hstep
              go_wp2
              go_roundw
              case rel =>
                refine ⟨k + 1, x6, ?_⟩
                have h := HS6.out
                have e1 : ((k + 1 : Nat) : Int) = (k : Int) + 1 := by omega
                rw [e1] at h
                exact h
              case measure =>
                simp only [numOf]
                omega
            · have hkl : k = l.length := by have := hI.le; omega
              have hE : EachPost w0 w q (bs ++ apTags l) (.returned (.tuple #[])) wr := ⟨rfl, x', hI.blk, by have := hI.own; rw [hkl, List.take_length] at this; exact this, hI.below⟩
              have HE := Lib.hid hE
              clear hE hI HJ0
              subst hkl
              go_wp2
              go_end0
              exact HE.out
        · intro x' cc kl yd yp w3 cnt3 hkey hlk hv hat hrg3 hlt hg3 hs3 hen
          obtain ⟨x'', ex, rfl, hk32⟩ := keyK hkey
          obtain rfl := encK_inj ex
          have hrow3 := HR.out.row.kept hg3 (.inr (iter_ne HR.out.row HR.out.hrg))
          have box3 : Blk w3 w1.heap.size [.slice a ss.length c] 117 := (hg3.block _ HR.out.box.lt (by have := RR.out.2; simp; omega)).trans HR.out.box
          have bel3 : Below w.heap.size w w3 := HR.out.below.grown hg3 HR.out.below.size (fun j hj => by cases hj; have := RR.out; omega)
          have hown3 : w3.ownsMap Tryd.prog 56 R0 g n D := hrg3.owns
          have m5 := box3.cell_some (i := 0) rfl
          have hs1 : ss.length + 1 ≤ 2147483646 := by have := HR.out.le; have := X.out.2.2.2.2.2.2.2.2.2.1; omega
          have Y := Lib.hid (And.intro hrow3 (And.intro box3 (And.intro bel3 (And.intro hrg3 (And.intro hlt (And.intro hlk (And.intro hat (And.intro hs1 (And.intro hown3 (And.intro hg3 hk32))))))))))
          have hb1 : ss.length + 1 ≤ maxLen := by unfold maxLen; omega
          have hb2 : (ss.length + 1) * 4 ≤ 140737488355328 := by omega
          have hb3 : w.heap.size ≤ (w3.alloc (.cells #[encK x'] 56)).heap.size := by have := bel3.size; simp; omega
          have Z := Lib.hid (And.intro hb1 (And.intro hb2 hb3))
          have m5' : ∀ ob, (w3.alloc ob).cell? ⟨w1.heap.size, 0, none⟩ = some (.slice a ss.length c) := fun ob => (World.cell?_of_block (Below.heap_alloc w3 ob _ box3.lt)).trans m5
          clear hs3 hrow3 box3 bel3 hrg3 hlt hlk hat hs1 hown3 hg3 hk32 hkey hv hb1 hb2 hb3
          go_wp2_with (first
            | (at_builtin; refine wpList_append_own _ rfl _ _ 117 rfl w.heap.size 56 i0 (.int .u32 0) 1 4 Tryd.underlying117 I.out.1 I.out.2.1 I.out.2.2.1 I.out.2.2.2.1 rfl (by decide) _ _ _ rfl (Y.out.1.alloc _) ⟨w3.heap.size, 0, none⟩ 1 1 [encK x'] rfl rfl (cell_one_new _ _ _) (by simp [Value.oneCell', encK]) Z.out.1 Z.out.2.1 Z.out.2.2 ?_; intro v' w4 hown' hg4 hnil4
               have hnn' : v' ≠ .slice none 0 0 := fun hv' => by have := (hnil4.1 hv').2; omega
               clear hnil4
               obtain ⟨a4, c4, rfl, ha4⟩ := row_shape hown' hnn'
               have box4 : Blk w4 w1.heap.size [.slice a ss.length c] 117 := (hg4.block _ (by have := Y.out.2.1.lt; simp; omega) (fun e => blk_ne Y.out.1 Y.out.2.1 (by decide) e.symm)).trans (Y.out.2.1.keeps ((Keeps.refl [] w3).alloc _) (by simp))
               have m6 := box4.cell_some (i := 0) rfl
               have f6 := box4.frozen 0
               have U := Lib.hid (And.intro hown' (And.intro hg4 (And.intro box4 ha4)))
               clear hown' hg4 box4 ha4 hnn')
            | go_in)
          have e1 : (ss ++ [x']).length = ss.length + 1 := by simp
          have p4r : w1.heap.size ≠ r := by have := RR.out; omega
          have p4g : w1.heap.size ≠ g := by have := RR.out; have := I.out.2.2.2.2.2.2.2.1; omega
          have rg4 := (((Y.out.2.2.2.1.alloc (.cells #[.int .u32 (x' : Nat)] 56)).kept U.out.2.1 (fun e => map_ne Y.out.1 Y.out.2.2.2.2.2.2.2.2.1 e.symm) (fun e => iter_ne Y.out.1 Y.out.2.2.2.1 e.symm)).kept (grown_setCell w4 w1.heap.size 0 (.slice a4 (ss.length + 1) c4)) (by simpa using fun e => p4g e.symm) (by simpa using fun e => p4r e.symm))
          refine ⟨⟨_, cnt3, ss ++ [x'], a4, c4, rg4, ?_, ?_, ?_, U.out.2.2.2, HR.out.coll.step Y.out.2.2.2.2.2.1 Y.out.2.2.2.2.2.2.1, ?_⟩, ?_⟩
          · have := HR.out.le; have := Y.out.2.2.2.2.1; omega
          · rw [e1]; exact U.out.2.2.1.set 0 _
          · rw [e1]
            have h := U.out.1.kept (grown_setCell w4 w1.heap.size 0 (.slice a4 (ss.length + 1) c4)) (.inr (blk_ne U.out.1 U.out.2.2.1 (by decide)))
            simpa using h
          · exact (((Y.out.2.2.1.alloc Y.out.2.2.1.size _).grown U.out.2.1 (by have := Y.out.2.2.1.size; simp; omega) (fun j hj => (Y.out.1.lt j hj).1))).setCell (show w.heap.size ≤ w1.heap.size from RR.out.1) _
          · rw [rg4.left_eq, HR.out.hrg.left_eq]; exact Y.out.2.2.2.2.1
set_option maxHeartbeats 1000000 in
theorem tagsAppend (hS : SortSpec) {w0 w : World} {b o : Nat} {v : Value} {bs : List UInt8} {l : List (Nat × List UInt8)} (h : TagMem [] w0 b o l) (hB : Below w0.heap.size w0 w) (hown : Own w0.heap.size w v bs) (hl : bs.length + (apTags l).length ≤ lim) :
    Calls Tryd.prog 58 #[.pointer (some ⟨b, o, none⟩), v] w (Appended w0.heap.size w (bs ++ apTags l)) := by
  obtain ⟨ya, yc, hx⟩ := own_shape hown
  generalize bs.length = yn at hx
  subst hx
  have hb1 : Blk (w.alloc (.cells #[.slice ya yn yc] 22)) w.heap.size [.slice ya yn yc] 22 := heap_alloc_new w _
  have hal : Below w0.heap.size w (w.alloc (.cells #[.slice ya yn yc] 22)) := (Below.refl _ _).alloc hB.size _
  have C := Lib.hid (tagsEach hS h (hB.trans hal) hB.size hb1 (World.ownsRow.alloc hown _) hl)
  have X := Lib.hid (And.intro hal trivial)
  clear h hB hown hl hb1 hal
  go_enter Tryd.func58, Tryd.ntmps58
  go_wp2_with fail
  refine C.out.mono ?_
  rintro e w1 ⟨rfl, x1, b1, o1, l1⟩
  have m1 := b1.cell_some (i := 0) rfl
  have Y := Lib.hid (And.intro o1 l1)
  clear b1 o1 l1 C
  go_wp2
  go_ret
  exact .mk Y.out.1 (X.out.1.trans Y.out.2)
theorem tagsOK (hS : SortSpec) : TagsOK TagMem Tryd.prog 57 58 := by
  intro w0 b o l h
  have hlen : l.length ≤ 2147483646 := by obtain ⟨m, n, D, -, -, -, -, -, h6, -⟩ := h; exact h6
  exact ⟨hlen, fun w hb => tagsLen h hb, fun w v bs hb hown hl => tagsAppend hS h hb hown hl⟩
end Go.Proofs.YtellhjpdpaeieaaDoor
