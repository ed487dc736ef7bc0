/- The reference's known and unknown tags, where there are none. -/
import Derived.Test.YtkhpglongkhbjaaSpf
namespace Go.Proofs.Ytkhpglongkhbjaa
open Go Go.RowKit

/-- What the loops over fields know of those that are left: gs, from the k-th on. -/
structure Left (B : Nat) (w : World) (a : Option Addr) (n : Nat) (k : Nat) (gs : PFs) : Prop where
  len : k + gs.len = n
  noTag : gs.noTag
  cells : ∀ p q, a = some ⟨p, q, none⟩ → RepFC B w gs p (q + k * 8)
theorem Left.below {B : Nat} {w w' : World} {a : Option Addr} {n k : Nat} {gs : PFs} (h : Left B w a n k gs) (hk : Below B w w') (hp : ∀ p q, a = some ⟨p, q, none⟩ → p < B) : Left B w' a n k gs :=
  ⟨h.len, h.noTag, fun p q ha => (h.cells p q ha).below hk (hp p q ha)⟩
theorem Left.next {B : Nat} {w : World} {a : Option Addr} {n k : Nat} {kk fr to nu tg df ok : Int} {sub rest : PFs} (h : Left B w a n k (.cons kk fr to nu tg df ok sub rest)) : Left B w a n (k + 1) rest :=
  ⟨by have := h.len; simp only [PFs.len] at this; omega, h.noTag.2.2, fun p q ha => by
    have := (h.cells p q ha).2.2
    rwa [show q + (k + 1) * 8 = q + k * 8 + 8 by omega]⟩
theorem Left.start {B : Nat} {w : World} {fs : PFs} {a : Option Addr} {n cap : Nat} (h : RepF B w fs (.slice a n cap)) (ht : fs.noTag) : n = fs.len ∧ fs.len ≤ 9223372036854775807 ∧ (fs.len ≠ 0 → ∃ p q, a = some ⟨p, q, none⟩ ∧ p < B) ∧ (fs.len ≠ 0 → Left B w a fs.len 0 fs) := by
  obtain ⟨a', cap', hv, hle, hr⟩ := h
  cases hv
  refine ⟨rfl, hle, fun hn => ?_, fun hn => ⟨by omega, ht, fun p q ha => ?_⟩⟩
  · obtain ⟨p, q, ha, hp, -⟩ := hr hn
    exact ⟨p, q, ha, hp⟩
  · obtain ⟨p', q', ha', -, hr⟩ := hr hn
    rw [ha] at ha'
    cases ha'
    rw [Nat.zero_mul, Nat.add_zero]
    exact hr

set_option maxRecDepth 100000 in
set_option maxHeartbeats 1600000 in
theorem spKnown0 (fs : PFs) (ht : fs.noTag) (fv : Value) (B base : Nat) (w : World) (hB : B ≤ base) (hb : base ≤ w.heap.size) (hf : RepF B w fs fv) :
    Says Try.prog 34 #[fv] w base (.int .u32 0) := by
  obtain ⟨a, cap, rfl, -⟩ := id hf
  obtain ⟨-, hmax, ha, hL⟩ := Left.start hf ht
  clear hf
  by_cases hn : fs.len = 0
  · rw [hn]
    clear ha hL
    go_enter Try.func34, Try.ntmps34
    go_wp2_with fail
    refine wp_loop_rounds 1 ?_
    rw [rounds_succ]
    go_wp2
    go_ret
    exact ⟨rfl, Below.refl _ _⟩
  · obtain ⟨p, q, rfl, hp⟩ := ha hn
    have L0 := hL hn
    clear ha hL
    obtain ⟨n, hnn⟩ : ∃ n, fs.len = n := ⟨_, rfl⟩
    rw [hnn] at L0 hmax ⊢
    go_enter Try.func34, Try.ntmps34
    go_wp2_with fail
    go_loopw [3, 8] (fun v i wr => ∃ k gs, i = .int .i64 (k : Nat) ∧ v = .int .u32 0 ∧ Left B w (some ⟨p, q, none⟩) n k gs ∧ Below base w wr)
      (fun _ i _ => n - (intOf i).toNat)
    case atStart => exact ⟨0, fs, rfl, rfl, L0, Below.refl _ _⟩
    case round =>
      obtain ⟨k, gs, rfl, rfl, L, hbk⟩ := hrel
      have hlen := L.len
      have htag := L.noTag
      have hc := (L.cells p q rfl).below (hbk.mono hB) hp
      cases gs with
      | nil =>
        simp only [PFs.len, Nat.add_zero] at hlen
        subst hlen
        clear L htag hc
        go_wp2
        go_ret
        exact ⟨rfl, hbk⟩
      | cons kk fr to nu tg df ok sub rest =>
        obtain ⟨⟨h1, h2, h3, h4, h5, h6, h7⟩, ⟨v, h8, a8, cap8, rfl, -⟩, hrest⟩ := hc
        obtain ⟨rfl, htags, htagr⟩ := htag
        simp only [PFs.len] at hlen
        have hkn : k < n := by omega
        have hpw : p < wr.heap.size := by have := hbk.size; omega
        have LN := Lib.hid (L.next)
        clear L htags htagr hrest
        go_wp2
        go_roundw
        case rel => exact ⟨k + 1, rest, by go_num, rfl, LN.out, hbk.alloc (Nat.le_trans hb hbk.size) _⟩
        case measure => simp [intOf]; omega

set_option maxRecDepth 100000 in
set_option maxHeartbeats 1600000 in
theorem spUnknown0 (fs : PFs) (ht : fs.noTag) (fv uv : Value) (u : List (Nat × List UInt8)) (hu0 : u = []) (B base : Nat) (w : World) (hB : B ≤ base) (hb : base ≤ w.heap.size) (hf : RepF B w fs fv) (hu : RepU B w u uv) :
    Says Try.prog 37 #[fv, uv] w base (.slice none 0 0) := by
  subst hu0
  obtain ⟨a, cap, rfl, -⟩ := hu
  have K := Lib.hid (spKnown0 fs ht fv B base w hB hb hf)
  obtain ⟨fa, fcap, rfl, -⟩ := hf
  go_enter Try.func37, Try.ntmps37
  go_wp2_with fail
  refine K.out.mono ?_
  rintro e w' ⟨rfl, hbel⟩
  go_wp2_with fail
  refine wp_loop_rounds 1 ?_
  rw [rounds_succ]
  go_wp2
  go_ret
  exact ⟨rfl, hbel⟩
end Go.Proofs.Ytkhpglongkhbjaa
