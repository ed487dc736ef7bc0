/- How the reference's fields and trees lie in memory, below block B. -/
import Derived.Test.YtkhpglongkhbjaaTree
import Derived.Test.YtkhpglongkhbjaaAppend
namespace Go.Proofs.Ytkhpglongkhbjaa
open Go Go.RowKit

/-- Fields that stand in cells, from (p, q) on, 8 cells each. -/
def RepFC (B : Nat) (w : World) : PFs → Nat → Nat → Prop
  | .nil, _, _ => True
  | .cons k fr to nu tg df ok sub rest, p, q =>
    (w.cell? ⟨p, q, none⟩ = some (.int .i64 k) ∧ w.cell? ⟨p, q + 1, none⟩ = some (.int .i64 fr) ∧ w.cell? ⟨p, q + 2, none⟩ = some (.int .i64 to) ∧ w.cell? ⟨p, q + 3, none⟩ = some (.int .i64 nu) ∧
      w.cell? ⟨p, q + 4, none⟩ = some (.int .i64 tg) ∧ w.cell? ⟨p, q + 5, none⟩ = some (.int .i64 df) ∧ w.cell? ⟨p, q + 6, none⟩ = some (.int .i64 ok)) ∧
    (∃ v, w.cell? ⟨p, q + 7, none⟩ = some v ∧ ∃ a cap, v = .slice a sub.len cap ∧ sub.len ≤ 9223372036854775807 ∧ (sub.len ≠ 0 → ∃ p' q', a = some ⟨p', q', none⟩ ∧ p' < B ∧ RepFC B w sub p' q')) ∧
    RepFC B w rest p (q + 8)
/-- Fields behind a slice's value. -/
def RepF (B : Nat) (w : World) (fs : PFs) (v : Value) : Prop := ∃ a cap, v = .slice a fs.len cap ∧ fs.len ≤ 9223372036854775807 ∧ (fs.len ≠ 0 → ∃ p q, a = some ⟨p, q, none⟩ ∧ p < B ∧ RepFC B w fs p q)
theorem RepFC.below {B : Nat} {w w' : World} (hk : Below B w w') : ∀ {fs : PFs} {p q : Nat}, p < B → RepFC B w fs p q → RepFC B w' fs p q
  | .nil, _, _, _, _ => trivial
  | .cons _ _ _ _ _ _ _ sub rest, p, q, hp, h => by
    obtain ⟨⟨h1, h2, h3, h4, h5, h6, h7⟩, ⟨v, h8, a, cap, h9, hle, h10⟩, h11⟩ := h
    have hc : ∀ j, w'.cell? ⟨p, j, none⟩ = w.cell? ⟨p, j, none⟩ := fun j => hk.cell (p := ⟨p, j, none⟩) hp
    refine ⟨⟨(hc _).trans h1, (hc _).trans h2, (hc _).trans h3, (hc _).trans h4, (hc _).trans h5, (hc _).trans h6, (hc _).trans h7⟩, ⟨v, (hc _).trans h8, a, cap, h9, hle, fun hn => ?_⟩, RepFC.below hk hp h11⟩
    obtain ⟨p', q', ha, hp', hr⟩ := h10 hn
    exact ⟨p', q', ha, hp', RepFC.below hk hp' hr⟩
theorem RepF.below {B : Nat} {w w' : World} {fs : PFs} {v : Value} (h : RepF B w fs v) (hk : Below B w w') : RepF B w' fs v := by
  obtain ⟨a, cap, hv, hle, h⟩ := h
  refine ⟨a, cap, hv, hle, fun hn => ?_⟩
  obtain ⟨p, q, ha, hp, hr⟩ := h hn
  exact ⟨p, q, ha, hp, hr.below hk hp⟩

/-- Unknown tags: cells of a number and octets, two a tag. -/
def RepU (B : Nat) (w : World) (u : List (Nat × List UInt8)) (v : Value) : Prop :=
  ∃ a cap, v = .slice a u.length cap ∧ u.length ≤ cap ∧ cap ≤ 9223372036854775807 ∧ (u ≠ [] → ∃ p q, a = some ⟨p, q, none⟩ ∧ p < B ∧
    ∀ i kv, u[i]? = some kv → w.cell? ⟨p, q + 2 * i, none⟩ = some (.int .u32 (kv.1 : Int)) ∧ kv.1 ≤ 4294967295 ∧ ∃ x, w.cell? ⟨p, q + 2 * i + 1, none⟩ = some x ∧ RL B w x kv.2)
theorem RepU.below {B : Nat} {w w' : World} {u : List (Nat × List UInt8)} {v : Value} (h : RepU B w u v) (hk : Below B w w') : RepU B w' u v := by
  obtain ⟨a, cap, hv, h1, h2, h⟩ := h
  refine ⟨a, cap, hv, h1, h2, fun hn => ?_⟩
  obtain ⟨p, q, ha, hp, hr⟩ := h hn
  refine ⟨p, q, ha, hp, fun i kv hi => ?_⟩
  obtain ⟨h3, h4, x, h5, h6⟩ := hr i kv hi
  exact ⟨(hk.cell (p := ⟨p, _, none⟩) hp).trans h3, h4, x, (hk.cell (p := ⟨p, _, none⟩) hp).trans h5, h6.below hk⟩

/-- A tree whose five cells hold c. -/
inductive RepT (B : Nat) (w : World) : List Value → Tree → Prop
  | mk (n : Int) (s : List UInt8) (null : Bool) (l : List Tree) (u : List (Nat × List UInt8)) (sv uv : Value) (a : Option Addr) (cap : Nat) (f : Nat → List Value)
    (hn : -9223372036854775808 ≤ n ∧ n ≤ 9223372036854775807) (hs : RL B w sv s) (hu : RepU B w u uv) (hcap : l.length ≤ cap ∧ cap ≤ 9223372036854775807)
    (hl : l ≠ [] → ∃ p q, a = some ⟨p, q, none⟩ ∧ p < B ∧ ∀ i, i < l.length → (f i).length = 5 ∧ ∀ j v, (f i)[j]? = some v → w.cell? ⟨p, q + 5 * i + j, none⟩ = some v)
    (hf : ∀ i t, l[i]? = some t → RepT B w (f i) t) : RepT B w [.int .i64 n, sv, .bool null, .slice a l.length cap, uv] (.mk n s null l u)
theorem RepT.keep {B : Nat} {w w' : World} (hk : Below B w w') {c : List Value} {t : Tree} (h : RepT B w c t) : RepT B w' c t := by
  induction h with
  | mk n s null l u sv uv a cap f hn hs hu hcap hl hf ih =>
    refine .mk n s null l u sv uv a cap f hn (hs.below hk) (hu.below hk) hcap (fun hne => ?_) ih
    obtain ⟨p, q, ha, hp, h⟩ := hl hne
    exact ⟨p, q, ha, hp, fun i hi => ⟨(h i hi).1, fun j v hj => (hk.cell (p := ⟨p, _, none⟩) hp).trans ((h i hi).2 j v hj)⟩⟩
theorem RepT.zero (B : Nat) (w : World) : RepT B w [.int .i64 0, .slice none 0 0, .bool false, .slice none 0 0, .slice none 0 0] .zero :=
  .mk 0 [] false [] [] _ _ none 0 (fun _ => []) (by omega) ⟨none, 0, rfl, Nat.le_refl _, by omega, fun h => absurd rfl h⟩ ⟨none, 0, rfl, Nat.le_refl _, by omega, fun h => absurd rfl h⟩ (by simp) (fun h => absurd rfl h) (fun i t h => by simp at h)
end Go.Proofs.Ytkhpglongkhbjaa
