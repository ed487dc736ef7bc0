/- Appending to bytes (or cells) of the call's own, from whatever source: one law, no program in sight. -/
import Derived.Test.YtpjoglnopfmjfaaDoorBase
namespace Go.Proofs.YtpjoglnopfmjfaaDoor
open Go Go.RowKit

/-- A walk stands still here: what is under it is met by hand. -/
def Halted (p : Prop) : Prop := p
theorem halted {p : Prop} (h : Halted p) : p := h

theorem own_append_src {P : Program} (w : World) (base : Nat) (t tx ty e : TypeId) (i : TypeInfo) (z : Value) (ht : P.underlying t = some (.slice e)) (hi : P.info? e = some i) (hz : i.zero = some z)
    (hzs : z.cells.size = i.size) (v : Value) (n : Nat) (xs : List Value) (hown : w.ownsRow base e i.size v n xs)
    (x : Value) (m : Nat) (news : List Value) (hs : Src P i.size tx x m news w)
    (h63 : n + m ≤ maxLen) (hbytes : (n + m) * i.bytes ≤ 140737488355328) (hbase : base ≤ w.heap.size) :
    ∃ v' w', (Builtin.append_ #[t, tx] ty #[v, x]).run P w = .ok v' w' ∧ w'.ownsRow base e i.size v' (n + m) (xs ++ news) ∧ w.grownBy w' v.ownBlock ∧
      (v' = .slice none 0 0 ↔ v = .slice none 0 0 ∧ m = 0) := by
  have hsmall : n + m ≤ 9223372036854775807 := by simp only [maxLen] at h63; omega
  have hl := hs.newsLen
  have hlen : (xs ++ news).length = (n + m) * i.size := by rw [List.length_append, hown.1, hl, Nat.add_mul]
  have grown : ∀ (old : Nat), old < n + m → ∀ (row : Option Nat),
      (w.drew.alloc (.cells ((xs ++ news).toArray ++ Builtin.zeroCells z.cells (grownCap w (n + m) old e - (n + m))) e)).ownsRow base e i.size
        (.slice (some ⟨w.heap.size, 0, none⟩) (n + m) (grownCap w (n + m) old e)) (n + m) (xs ++ news) ∧
      w.grownBy (w.drew.alloc (.cells ((xs ++ news).toArray ++ Builtin.zeroCells z.cells (grownCap w (n + m) old e - (n + m))) e)) row := by
    intro old ho row
    have hge := grownCap_ge w (n + m) old e
    have hcm : grownCap w (n + m) old e ≤ maxLen := grownCap_le_maxLen w (n + m) old e h63
    refine ⟨⟨hlen, .inr ⟨w.heap.size, _, _, rfl, hbase, heap_alloc_new w.drew _, hge, hcm, ?_, ?_⟩⟩, ⟨rfl, rfl, rfl, by simp, fun k hk _ => Below.heap_alloc w.drew _ k hk⟩⟩
    · simp only [Array.size_append, List.size_toArray, size_zeroCells, hzs, hlen, ← Nat.add_mul]
      congr 1
      omega
    · simp only [Array.toList_append]
      rw [← hlen]
      exact List.take_left
  rcases hown.2 with ⟨rfl, rfl⟩ | ⟨g, cap, cur, rfl, hbg, hg, hnc, hcm, hcs, htake⟩
  · have hx : xs = [] := List.eq_nil_of_length_eq_zero (by simpa using hown.1)
    subst hx
    by_cases hm : m = 0
    · subst hm
      have hn : news = [] := List.eq_nil_of_length_eq_zero (by simpa using hl)
      subst hn
      refine ⟨.slice none 0 0, w, ?_, World.ownsRow_nil w base e i.size, ⟨rfl, rfl, rfl, Nat.le_refl _, fun _ _ _ => rfl⟩, by simp⟩
      rcases hs.kind with ⟨e', hk⟩ | hk <;> simp [Builtin.append_, run_underlying ht, run_underlying hk, sizeOf, typeInfo, hi, hs.len, hs.cells]
    · have hr := run_append_grow_src (P := P) w t tx ty e i z ht hi hz none 0 0 [] (run_firstCells_none w.drew i.size 0 0 0) x m news hs (by omega) (by omega) (growslice_fits (by omega) (by simpa using hbytes))
      have hgr := grown 0 (by omega) (Value.ownBlock (.slice none 0 0))
      simp only [Nat.zero_add, List.nil_append] at hgr hr ⊢
      exact ⟨_, _, hr, hgr.1, hgr.2, by simp [hm]⟩
  · by_cases hroom : n + m ≤ cap
    · have hfit : n * i.size + news.length ≤ cur.size := by rw [hl, hcs, ← Nat.add_mul]; exact Nat.mul_le_mul_right _ hroom
      have hst := run_storeCells_at P g (n * i.size) e news 0 cur w hg (by simpa using hfit) hs.one
      simp only [Nat.add_zero] at hst
      have hr : (Builtin.append_ #[t, tx] ty #[.slice (some ⟨g, 0, none⟩) n cap, x]).run P w =
          .ok (.slice (some ⟨g, 0, none⟩) (n + m) cap) (w.setRow g (cur.toList.take (n * i.size) ++ news ++ cur.toList.drop (n * i.size + news.length)).toArray) := by
        rcases hs.kind with ⟨e', hk⟩ | hk <;> simp [Builtin.append_, run_underlying ht, run_underlying hk, sizeOf, typeInfo, hi, hs.len, hroom, hs.cells, Addr.add_lit, hst]
      refine ⟨_, _, hr, ⟨hlen, .inr ⟨g, cap, _, rfl, hbg, setRow_heap w g cur _ e _ hg, hroom, hcm, ?_, ?_⟩⟩, ⟨rfl, rfl, rfl, by simp, fun k _ hk => setRow_other w g k _ (fun e => hk (by simp [Value.ownBlock, e]))⟩, by simp⟩
      · simp only [List.size_toArray, List.length_append, List.length_take, List.length_drop, Array.length_toList]
        omega
      · rw [htake, ← hlen]
        exact List.take_left
    · have holds : ∀ j u, xs[j]? = some u → w.drew.cell? ((⟨g, 0, none⟩ : Addr).add j) = some u := fun j u hu => by simpa using hown.cells (g := g) rfl j u hu
      have hr := run_append_grow_src (P := P) w t tx ty e i z ht hi hz (some ⟨g, 0, none⟩) n cap xs (run_firstCells_some w.drew i.size n ⟨g, 0, none⟩ n cap xs hown.1 holds) x m news hs (by omega) (by omega) (growslice_fits (by omega) hbytes)
      have hgr := grown cap (by omega) (Value.ownBlock (.slice (some ⟨g, 0, none⟩) n cap))
      exact ⟨_, _, hr, hgr.1, hgr.2, by simp⟩

theorem wp_append_src {P : Program} {w : World} {o : Oper} {a : Act} {K : Act → World → Prop} {Q : Exit → Act → World → Prop} (s x : Operand) (t tx : TypeId)
    (ho : o.op = .call { callee := .builtin .append, args := #[s, x], argTypes := #[t, tx] })
    (base : Nat) (e : TypeId) (i : TypeInfo) (z : Value) (size bytes : Nat) (ht : P.underlying t = some (.slice e)) (hi : P.info? e = some i) (hz : i.zero = some z)
    (hsize : i.size = size) (hby : i.bytes = bytes) (hzs : z.cells.size = size)
    (v : Value) (n : Nat) (xs : List Value) (hsv : a.eval s = v) (hown : w.ownsRow base e size v n xs)
    (xv : Value) (m : Nat) (news : List Value) (hx : a.eval x = xv) (hs : Src P size tx xv m news w)
    (h63 : n + m ≤ maxLen) (hbytes : (n + m) * bytes ≤ 140737488355328) (hbase : base ≤ w.heap.size)
    (h : ∀ v' w', w'.ownsRow base e size v' (n + m) (xs ++ news) → w.grownBy w' v.ownBlock → (v' = .slice none 0 0 ↔ v = .slice none 0 0 ∧ m = 0) → K (a.put o.dst v') w') : o.wp P a w K Q := by
  subst hsize
  subst hby
  obtain ⟨v', w', hr, h2, h3, h4⟩ := own_append_src (P := P) w base t tx o.type e i z ht hi hz hzs v n xs hown xv m news hs h63 hbytes hbase
  unfold Oper.wp execOp
  simp only [ho, resolve, invoke, builtin, Sem.run_bind, Sem.run_pure, Result.andThen_ok, List.map_toArray, List.map_cons, List.map_nil, hsv, hx, hr]
  exact h v' w' h2 h3 h4

theorem wpl_append_src {P : Program} {w : World} {ops : Array Oper} {rest : List Oper} {o : Oper} {a : Act} {Q : Exit → Act → World → Prop} (hgd : o.guard = none) (s x : Operand) (t tx : TypeId)
    (ho : o.op = .call { callee := .builtin .append, args := #[s, x], argTypes := #[t, tx] })
    (base : Nat) (e : TypeId) (i : TypeInfo) (z : Value) (size bytes : Nat) (ht : P.underlying t = some (.slice e)) (hi : P.info? e = some i) (hz : i.zero = some z)
    (hsize : i.size = size) (hby : i.bytes = bytes) (hzs : z.cells.size = size)
    (v : Value) (n : Nat) (xs : List Value) (hsv : a.eval s = v) (hown : w.ownsRow base e size v n xs)
    (xv : Value) (m : Nat) (news : List Value) (hx : a.eval x = xv) (hs : Src P size tx xv m news w)
    (h63 : n + m ≤ maxLen) (hbytes : (n + m) * bytes ≤ 140737488355328) (hbase : base ≤ w.heap.size)
    (h : ∀ v' w', w'.ownsRow base e size v' (n + m) (xs ++ news) → w.grownBy w' v.ownBlock → (v' = .slice none 0 0 ↔ v = .slice none 0 0 ∧ m = 0) → wpList P ops Q rest (a.put o.dst v') w') : wpList P ops Q (o :: rest) a w :=
  wpList_plain hgd fun _ hK => wp_append_src s x t tx ho base e i z size bytes ht hi hz hsize hby hzs v n xs hsv hown xv m news hx hs h63 hbytes hbase fun v' w' h2 h3 h4 => hK _ _ (h v' w' h2 h3 h4)

/-- The types of bytes: t is []byte, e is byte. -/
structure BytesT (P : Program) (t e : TypeId) : Prop where
  under : P.underlying t = some (.slice e)
  info : ∃ i, P.info? e = some i ∧ i.zero = some (.int .u8 0) ∧ i.size = 1 ∧ i.bytes = 1
  elem : P.underlying e = some (.int .u8)

/-- 'append(dst, a, b, ..)' of bytes: the literal has just been laid. -/
theorem wpl_append_bytes {P : Program} {w : World} {ops : Array Oper} {rest : List Oper} {o : Oper} {a : Act} {Q : Exit → Act → World → Prop} {t : TypeId} (T : BytesT P t 5) (hgd : o.guard = none) (s x : Operand)
    (ho : o.op = .call { callee := .builtin .append, args := #[s, x], argTypes := #[t, t] }) (base : Nat) (bs : List UInt8) (hown : Own base w (a.eval s) bs) (hb : base ≤ w.heap.size)
    (cs : List Value) (bs' : List UInt8) (hcs : cs = bs'.map byteV) (hx : a.eval x = .slice (some ⟨w.heap.size, 0, none⟩) cs.length cs.length) (hl : bs.length + bs'.length ≤ lim)
    (h : ∀ v' w', Own base w' v' (bs ++ bs') → Below base w w' → wpList P ops Q rest (a.put o.dst v') w') : wpList P ops Q (o :: rest) a (w.alloc (.cells cs.toArray 5)) := by
  obtain ⟨i, hi, hz, hs, hby⟩ := T.info
  subst hcs
  rw [List.length_map] at hx
  refine wpl_append_src hgd s x t t ho base 5 i (.int .u8 0) 1 1 T.under hi hz hs hby rfl (a.eval s) bs.length (bs.map byteV) rfl (World.ownsRow.alloc hown _) _ bs'.length (bs'.map byteV) hx
    (Src.ofSlice _ T.under _ _ _ _ (by simp) ?_ ?_) (lim_max hl) (lim_room hl) (by simp; omega) ?_
  · intro j u hj
    rw [Addr.add_lit, (Blk.alloc_new w (bs'.map byteV) _).cell]
    simpa using hj
  · intro u hu
    obtain ⟨_, _, rfl⟩ := List.mem_map.1 hu
    rfl
  · intro v' w' hown' hg _
    refine h v' w' ?_ ?_
    · unfold Own
      simpa using hown'
    · exact ((Below.refl _ _).alloc hb _).grown hg (by simp; omega) (fun k hk => by
        have := hown.lt k hk
        omega)

/-- 'append(dst, src...)' of bytes that lie in memory (or are nil), or of a text. -/
theorem wpl_append_from {P : Program} {w : World} {ops : Array Oper} {rest : List Oper} {o : Oper} {a : Act} {Q : Exit → Act → World → Prop} {t tx : TypeId} (T : BytesT P t 5) (hgd : o.guard = none) (s x : Operand)
    (ho : o.op = .call { callee := .builtin .append, args := #[s, x], argTypes := #[t, tx] }) (base : Nat) (bs : List UInt8) (hown : Own base w (a.eval s) bs) (hb : base ≤ w.heap.size)
    (bs' : List UInt8) (hsrc : Src P 1 tx (a.eval x) bs'.length (bs'.map byteV) w) (hl : bs.length + bs'.length ≤ lim)
    (h : ∀ v' w', Own base w' v' (bs ++ bs') → Below base w w' → wpList P ops Q rest (a.put o.dst v') w') : wpList P ops Q (o :: rest) a w := by
  obtain ⟨i, hi, hz, hs, hby⟩ := T.info
  refine wpl_append_src hgd s x t tx ho base 5 i (.int .u8 0) 1 1 T.under hi hz hs hby rfl (a.eval s) bs.length (bs.map byteV) rfl hown _ bs'.length (bs'.map byteV) rfl hsrc (lim_max hl) (lim_room hl) hb ?_
  intro v' w' hown' hg _
  refine h v' w' ?_ ?_
  · unfold Own
    simpa using hown'
  · exact (Below.refl _ _).grown hg hb (fun k hk => by
        have := hown.lt k hk
        omega)

theorem Src.ofRB {P : Program} {O : List Nat} {w : World} {t : TypeId} {e : TypeId} (ht : P.underlying t = some (.slice e)) {v : Value} {bs : List UInt8} (h : RB O w v bs) : Src P 1 t v bs.length (bs.map byteV) w := by
  obtain ⟨a, cap, rfl, h1, h2, h3⟩ := h
  cases a with
  | some ad =>
    refine Src.ofSlice _ ht _ _ _ _ (by simp) ?_ ?_
    · intro j u hj
      rw [List.getElem?_map] at hj
      have hne : bs ≠ [] := by intro e; subst e; simp at hj
      obtain ⟨b, o, hab, _, hc⟩ := h3 hne
      cases hab
      cases hbj : bs[j]? with
      | none => simp [hbj] at hj
      | some c =>
        rw [hbj] at hj
        cases hj
        rw [Addr.add_lit]
        exact hc j c hbj
    · intro u hu
      obtain ⟨_, _, rfl⟩ := List.mem_map.1 hu
      rfl
  | none =>
    have hnil : bs = [] := by
      by_cases hne : bs = []
      · exact hne
      · obtain ⟨b, o, hab, _⟩ := h3 hne
        cases hab
    subst hnil
    exact Src.ofNil _ ht _

theorem Src.ofRL {P : Program} {B : Nat} {w : World} {t : TypeId} {e : TypeId} (ht : P.underlying t = some (.slice e)) {v : Value} {bs : List UInt8} (h : RL B w v bs) : Src P 1 t v bs.length (bs.map byteV) w := by
  obtain ⟨a, cap, hv, h1, h2, h3⟩ := h
  exact Src.ofRB (O := []) ht ⟨a, cap, hv, h1, h2, fun hne => by
    obtain ⟨b, o, ha, _, hc⟩ := h3 hne
    exact ⟨b, o, ha, by simp, hc⟩⟩

theorem Src.ofStr {P : Program} {w : World} {t : TypeId} (ht : P.underlying t = some .string) (s : ByteArray) : Src P 1 t (.string s) s.data.toList.length (s.data.toList.map byteV) w := by
  have h := Src.ofString (P := P) w ht s
  have e : s.data.toList.length = s.size := by rw [Array.length_toList]; rfl
  rw [e]
  exact h

theorem Own.below {base B : Nat} {w w' : World} {v : Value} {bs : List UInt8} (h : Own base w v bs) (hk : w.grownBy w' B) (hv : v.ownBlock ≠ some B) : Own base w' v bs :=
  World.ownsRow.kept h hk (.inr hv)
theorem Own.alloc {base : Nat} {w : World} {v : Value} {bs : List UInt8} (h : Own base w v bs) (o : Obj) : Own base (w.alloc o) v bs := World.ownsRow.alloc h o
theorem Own.drew {base : Nat} {w : World} {v : Value} {bs : List UInt8} (h : Own base w v bs) : Own base w.drew v bs := h
theorem Own.drewN {base : Nat} {w : World} {v : Value} {bs : List UInt8} (h : Own base w v bs) (n : Nat) : Own base (w.drewN n) v bs := h
theorem Own.nil (base : Nat) (w : World) : Own base w (.slice none 0 0) [] := World.ownsRow_nil w base _ 1
theorem Own.mono {base base' : Nat} {w : World} {v : Value} {bs : List UInt8} (h : Own base w v bs) (hb : base' ≤ base) : Own base' w v bs := by
  refine ⟨h.1, ?_⟩
  rcases h.2 with hn | ⟨g, cap, cur, hv, hbg, rest⟩
  · exact .inl hn
  · exact .inr ⟨g, cap, cur, hv, Nat.le_trans hb hbg, rest⟩
/-- What the call owns, read as bytes in memory. -/
theorem Own.rb {base : Nat} {w : World} {v : Value} {bs : List UInt8} (h : Own base w v bs) (O : List Nat) (hO : ∀ k, k ∈ O → k < base ∨ w.heap.size ≤ k) : RB O w v bs := by
  have hlt := World.ownsRow.lt h
  rcases h.2 with ⟨rfl, hn⟩ | ⟨g, cap, cur, rfl, hbg, hg, hn, hc, hcs, htake⟩
  · have : bs = [] := List.eq_nil_of_length_eq_zero hn
    subst this
    exact RB.nil _ _
  · refine ⟨some ⟨g, 0, none⟩, cap, rfl, hn, by simpa [maxLen] using hc, fun _ => ⟨g, 0, rfl, ?_, ?_⟩⟩
    · intro hgO
      have := hO g hgO
      have := hlt g rfl
      omega
    · intro i u hi
      have := World.ownsRow.cells h (g := g) rfl i (byteV u) (by simp [hi])
      rw [Addr.add_lit] at this
      exact this

end Go.Proofs.YtpjoglnopfmjfaaDoor
