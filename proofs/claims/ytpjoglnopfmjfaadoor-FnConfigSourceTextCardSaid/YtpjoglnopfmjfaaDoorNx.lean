/- The code's zzIndex and zzReplaceAll at one byte. -/
import Derived.Test.YtpjoglnopfmjfaaDoorNp
import Derived.Test.YtpjoglnopfmjfaaDoorAppend
import Derived.Test.YtpjoglnopfmjfaaDoorProg
import Derived.Lib.Hide
namespace Go.Proofs.YtpjoglnopfmjfaaDoor
open Go Go.RowKit

/-- Where a byte first stands, or -1. -/
def idxB (c : UInt8) : List UInt8 → Int → Int
  | [], _ => -1
  | b :: l, k => if b = c then k else idxB c l (k + 1)
theorem idxB_none (c : UInt8) : ∀ (l : List UInt8) (k : Int), c ∉ l → idxB c l k = -1
  | [], _, _ => rfl
  | b :: l, k, h => by
    have h1 : b ≠ c := fun e => h (by simp [e])
    rw [idxB, if_neg h1]
    exact idxB_none c l (k + 1) (fun e => h (by simp [e]))
theorem idxB_some (c : UInt8) : ∀ (l m : List UInt8) (k : Int), c ∉ l → idxB c (l ++ c :: m) k = k + l.length
  | [], m, k, _ => by simp [idxB]
  | b :: l, m, k, h => by
    have h1 : b ≠ c := fun e => h (by simp [e])
    rw [List.cons_append, idxB, if_neg h1, idxB_some c l m (k + 1) (fun e => h (by simp [e]))]
    simp only [List.length_cons, Int.natCast_add]
    omega

theorem ext1 {s : ByteArray} {k : Nat} {b : UInt8} (h : s.data.toList[k]? = some b) : (s.extract k (k + 1)).toList = [b] := by
  rw [Go.Lib.extract_toList, Nat.add_sub_cancel_left]
  obtain ⟨hk, he⟩ := List.getElem?_eq_some_iff.1 h
  rw [List.drop_eq_getElem_cons hk, he]
  rfl
theorem size_len (s : ByteArray) : s.data.toList.length = s.size := rfl
theorem split_at {l : List UInt8} {k : Nat} {c : UInt8} (h : l[k]? = some c) : l = l.take k ++ c :: l.drop (k + 1) := by
  obtain ⟨hk, he⟩ := List.getElem?_eq_some_iff.1 h
  rw [← he, ← List.drop_eq_getElem_cons hk, List.take_append_drop]

set_option maxRecDepth 100000 in
set_option maxHeartbeats 1600000 in
theorem zzIndex (s : ByteArray) (c : UInt8) (w : World) (hs : s.size ≤ 1000000) :
    Calls Tryd.prog 30 #[.string s, .string ⟨#[c]⟩] w fun e w' => e = .returned (.int .i64 (idxB c s.data.toList 0)) ∧ w' = w := by
  have hc1 : (⟨#[c]⟩ : ByteArray).size = 1 := rfl
  obtain ⟨n, hn⟩ : ∃ n, s.size = n := ⟨_, rfl⟩
  rw [hn] at hs
  go_enter Tryd.func30, Tryd.ntmps30
  go_wp2
  go_loopw [5] (fun i wr => ∃ k : Nat, i = .int .i64 k ∧ k ≤ n ∧ (c ∉ s.data.toList.take k) ∧ wr = w) (fun i _ => n - (intOf i).toNat)
  case atStart => exact ⟨0, rfl, Nat.zero_le _, by simp, rfl⟩
  case round =>
    obtain ⟨k, rfl, hkn, hno, rfl⟩ := hrel
    by_cases hk : k < n
    · obtain ⟨b, hb⟩ : ∃ b, s.data.toList[k]? = some b := ⟨_, List.getElem?_eq_getElem (by rw [size_len]; omega)⟩
      by_cases hbc : b = c
      · subst hbc
        have he : ((s.extract k (k + 1)).toList == [b]) = true := by rw [ext1 hb]; simp
        have R := Lib.hid (And.intro hb hno)
        clear hb hno
        go_wp2
        go_ret
        rw [split_at R.out.1, idxB_some _ _ _ _ R.out.2]
        have := List.getElem?_eq_some_iff.1 R.out.1
        simp
        have := this.1
        simp at this
        omega
      · have he : ((s.extract k (k + 1)).toList == [c]) = false := by rw [ext1 hb]; simp [hbc]
        have R := Lib.hid (And.intro hb (And.intro hno hbc))
        clear hb hno hbc
        go_wp2
        go_roundw
        case rel =>
          refine ⟨k + 1, rfl, hk, fun h => ?_, ?_⟩
          rotate_left
          · trivial
          rw [List.take_add_one, R.out.1] at h
          rcases List.mem_append.1 h with h | h
          · exact R.out.2.1 h
          · simp at h
            exact R.out.2.2 h.symm
        case measure => simp [intOf]; omega
    · have hkn' : k = n := by omega
      subst hkn'
      have R := Lib.hid hno
      clear hno
      have e1 : idxB c s.data.toList 0 = -1 := idxB_none _ _ _ (by have := R.out; rwa [List.take_of_length_le (by rw [size_len]; omega)] at this)
      have E := Lib.hid e1
      clear e1
      go_wp2
      go_ret
      exact ⟨by rw [E.out]; rfl, rfl⟩

theorem fold_push (bs : List UInt8) : ∀ acc : ByteArray, (bs.map fun u => ((u.toNat : Nat) : Int)).foldl (fun r n => r.push (UInt8.ofNat n.toNat)) acc = ⟨acc.data ++ bs.toArray⟩ := by
  induction bs with
  | nil => intro acc; simp
  | cons u l ih =>
    intro acc
    simp only [List.map_cons, List.foldl_cons]
    rw [ih]
    congr 1
    simp [ByteArray.push]
theorem run_str {P : Program} {O : List Nat} {w : World} {v : Value} {bs : List UInt8} (h : RB O w v bs) : (Conv.bytesToString v).run P w = .ok (.string ⟨bs.toArray⟩) w := by
  obtain ⟨a, cap, rfl, h1, h2, h3⟩ := h
  have key : ∀ ad : Addr, (loadCells ad bs.length).run P w = .ok (bs.map byteV).toArray w → (Conv.bytesToString (.slice (some ad) bs.length cap)).run P w = .ok (.string ⟨bs.toArray⟩) w := by
    intro ad hl
    have hm : bs.map byteV = (bs.map fun u => ((u.toNat : Nat) : Int)).map (Value.int .u8) := by
      rw [List.map_map]
      rfl
    rw [hm] at hl
    rw [run_bytesToString w ad bs.length cap _ hl, fold_push]
    simp
  cases a with
  | none =>
    have hn : bs = [] := by
      by_cases hne : bs = []
      · exact hne
      · obtain ⟨b, o, hab, -⟩ := h3 hne
        cases hab
    subst hn
    simp [Conv.bytesToString]
    rfl
  | some ad =>
    by_cases hne : bs = []
    · subst hne
      exact key ad (run_loadCells_list (P := P) w ad [] (fun j v hj => by simp at hj))
    · obtain ⟨b, o, hab, -, hc⟩ := h3 hne
      cases hab
      refine key _ ?_
      have := run_loadCells_list (P := P) w ⟨b, o, none⟩ (bs.map byteV) (fun j v hj => by
        rw [List.getElem?_map] at hj
        cases hbj : bs[j]? with
        | none => simp [hbj] at hj
        | some c =>
          rw [hbj] at hj
          cases hj
          rw [Addr.add_lit]
          exact hc j c hbj)
      simpa using this
/-- Octets as a text. -/
theorem run_conv {O : List Nat} {w : World} {v : Value} {bs : List UInt8} (h : RB O w v bs) : (convert 26 9 v).run Tryd.prog w = .ok (.string ⟨bs.toArray⟩) w := by
  have h2 := run_str (P := Tryd.prog) h
  obtain ⟨a, cap, rfl, -, -, -⟩ := h
  rw [run_convert_bytes_string w _ _ 5 a _ cap Tryd.underlying26 Tryd.underlying5 Tryd.underlying9]
  exact h2
theorem Tryd.bytesInfo : (Tryd.prog.info? 5).map (fun i => (i.zero, i.size, i.bytes)) = some (some (.int .u8 0), 1, 1) := by kernel_rfl
theorem bt : BytesT Tryd.prog 26 5 := ⟨Tryd.underlying26, info_parts Tryd.bytesInfo, Tryd.underlying5⟩
theorem first_at {c : UInt8} : ∀ {l : List UInt8}, c ∈ l → ∃ k : Nat, l[k]? = some c ∧ c ∉ l.take k
  | [], h => by simp at h
  | b :: l, h => by
    by_cases hb : b = c
    · exact ⟨0, by simp [hb], by simp⟩
    · have hc : c ∈ l := by
        rcases List.mem_cons.1 h with h | h
        · exact absurd h.symm hb
        · exact h
      obtain ⟨k, h1, h2⟩ := first_at hc
      refine ⟨k + 1, by simpa using h1, ?_⟩
      rw [List.take_succ_cons]
      intro h3
      rcases List.mem_cons.1 h3 with h3 | h3
      · exact hb h3.symm
      · exact h2 h3
theorem strikes {l : List UInt8} {c : UInt8} {k : Nat} (h : l[k]? = some c) (hno : c ∉ l.take k) : l.filter (· != c) = l.take k ++ (l.drop (k + 1)).filter (· != c) := by
  rw [split_at h]
  rw [List.filter_append]
  have e1 : (l.take k).filter (· != c) = l.take k := List.filter_eq_self.2 fun a ha => by
    have : a ≠ c := fun e => hno (e ▸ ha)
    simpa using this
  rw [← split_at h, e1]
  simp

set_option maxRecDepth 100000 in
set_option maxHeartbeats 1600000 in
/-- One byte struck out. -/
theorem zzReplaceAll (s : ByteArray) (c : UInt8) (w : World) (hs : s.size ≤ 1000000) :
    Calls Tryd.prog 27 #[.string s, .string ⟨#[c]⟩, .string ⟨#[]⟩] w fun e w' => e = .returned (.string ⟨(s.data.toList.filter (· != c)).toArray⟩) ∧ Below w.heap.size w w' := by
  have hc1 : (⟨#[c]⟩ : ByteArray).size = 1 := rfl
  have hlim : 1000000 ≤ lim := by decide
  have H := Lib.hid (And.intro hs hlim)
  clear hs hlim
  go_enter Tryd.func27, Tryd.ntmps27
  go_wp2_with fail
  go_loopw [0, 7] (fun i j wr => ∃ (r : ByteArray) (out : List UInt8), i = .string r ∧ Own w.heap.size wr j out ∧ out ++ r.data.toList.filter (· != c) = s.data.toList.filter (· != c) ∧ out.length + r.size ≤ s.size ∧ Below w.heap.size w wr) (fun i _ _ => match i with | .string r => r.size | _ => 0)
  case atStart => exact ⟨s, [], rfl, Own.nil _ _, rfl, by simp, Below.refl _ _⟩
  case round =>
    obtain ⟨r, out, rfl, hown, hf, hl, hbel⟩ := hrel
    have R := Lib.hid (And.intro hown (And.intro hf (And.intro hl hbel)))
    have hr : r.size ≤ 1000000 := by have := H.out.1; omega
    clear hown hf hl hbel
    go_wp2_with fail
    refine (zzIndex r c _ hr).mono ?_
    rintro e w2 ⟨rfl, rfl⟩
    have hw0 := R.out.2.2.2.size
    by_cases hc : c ∈ r.data.toList
    · obtain ⟨k, hk, hkn⟩ := first_at hc
      have hkl : k < r.size := (List.getElem?_eq_some_iff.1 hk).1
      have ei : idxB c r.data.toList 0 = (k : Int) := by
        rw [split_at hk, idxB_some _ _ _ _ hkn]
        simp
        have := hkl
        rw [← size_len] at this
        omega
      rw [ei]
      have K := Lib.hid (And.intro hk (And.intro hkn ei))
      clear hk hkn ei hc
      have hx : (r.extract 0 k).data.toList = r.data.toList.take k := by
        rw [← Go.Lib.toList_data, Go.Lib.extract_toList]
        simp
      have hy : (r.extract (k + 1) r.size).data.toList = r.data.toList.drop (k + 1) := by
        rw [← Go.Lib.toList_data, Go.Lib.extract_toList]
        exact List.take_of_length_le (by rw [List.length_drop, size_len]; exact Nat.le_refl _)
      have X := Lib.hid (And.intro hx hy)
      clear hx hy
      go_wp2_with (at_builtin; refine halted ?_)
      refine wpl_append_from bt rfl _ _ rfl w.heap.size out R.out.1 hw0 (r.extract 0 k).data.toList (Src.ofStr Tryd.underlying9 _) (by have h1 := R.out.2.2.1; have h2 := H.out.1; have h3 := H.out.2; rw [X.out.1, List.length_take]; omega) ?_
      intro v1 w1 hown1 hb1
      rw [X.out.1] at hown1
      have z1 := hb1.size
      have R1 := Lib.hid (And.intro hown1 hb1)
      clear hown1 hb1
      go_wp2_with (at_builtin; refine halted ?_)
      refine wpl_append_from bt rfl _ _ rfl w.heap.size _ R1.out.1 (Nat.le_trans hw0 z1) [] (Src.ofStr Tryd.underlying9 ⟨#[]⟩) (by have h1 := R.out.2.2.1; have h2 := H.out.1; have h3 := H.out.2; rw [List.length_append, List.length_take]; simp; omega) ?_
      intro v2 w3 hown2 hb2
      rw [List.append_nil] at hown2
      have R2 := Lib.hid (And.intro hown2 hb2)
      clear hown2 hb2
      go_wp2
      go_roundw
      case rel =>
        refine ⟨r.extract (k + 1) r.size, out ++ r.data.toList.take k, rfl, R2.out.1, ?_, ?_, R.out.2.2.2.trans (R1.out.2.trans R2.out.2)⟩
        · rw [X.out.2, List.append_assoc, ← strikes K.out.1 K.out.2.1]
          exact R.out.2.1
        · have h1 := R.out.2.2.1
          rw [List.length_append, List.length_take, size_len, ← size_len (r.extract (k + 1) r.size), X.out.2, List.length_drop, size_len]
          omega
      case measure =>
        show (r.extract (k + 1) r.size).size < r.size
        rw [← size_len (r.extract (k + 1) r.size), X.out.2, List.length_drop, size_len]
        omega
    · have ei : idxB c r.data.toList 0 = -1 := idxB_none _ _ _ hc
      rw [ei]
      have K := Lib.hid (And.intro hc ei)
      clear ei hc
      go_wp2_with (at_builtin; refine halted ?_)
      refine wpl_append_from bt rfl _ _ rfl w.heap.size out R.out.1 hw0 r.data.toList (Src.ofStr Tryd.underlying9 r) (by have h1 := R.out.2.2.1; have h2 := H.out.1; have h3 := H.out.2; rw [size_len]; omega) ?_
      intro v1 w1 hown1 hb1
      have hcv := run_conv (hown1.rb [] (by simp))
      have R1 := Lib.hid (And.intro hown1 hb1)
      clear hown1 hb1
      go_wp2
      go_ret
      have e2 : r.data.toList.filter (· != c) = r.data.toList := List.filter_eq_self.2 fun a ha => by
        have : a ≠ c := fun e => K.out.1 (e ▸ ha)
        simpa using this
      have e3 := R.out.2.1
      rw [e2] at e3
      exact ⟨by rw [e3]; rfl, R.out.2.2.2.trans R1.out.2⟩
end Go.Proofs.YtpjoglnopfmjfaaDoor
