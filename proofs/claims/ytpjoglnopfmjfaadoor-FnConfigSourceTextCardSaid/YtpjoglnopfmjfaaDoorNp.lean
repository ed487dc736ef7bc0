/- Texts made normal: what the code's order of steps gives is what the reference's gives. Plain. -/
import Derived.Lib.Case
import Derived.Lib.Space
namespace Go.Proofs.YtpjoglnopfmjfaaDoor
open Go.Lib

/-- What stays: neither a dot, nor an underscore, nor a dash. -/
def keepB (b : UInt8) : Bool := b != 46 && b != 95 && b != 45
/-- The code's order: dots, underscores, dashes; blanks at the ends; letters made small. -/
def normC (l : List UInt8) : List UInt8 := toLowerA (trimSpace (((l.filter (· != 46)).filter (· != 95)).filter (· != 45)))
/-- The reference's order: letters made small, what stays; blanks at the ends. -/
def normS (l : List UInt8) : List UInt8 := trimSpace ((l.map lowerB).filter keepB)
theorem keep_lower_fin : ∀ i : Fin 256, keepB (lowerB (UInt8.ofNat i.val)) = keepB (UInt8.ofNat i.val) := by decide +kernel
theorem isSp_lower_fin : ∀ i : Fin 256, isSp (lowerB (UInt8.ofNat i.val)) = isSp (UInt8.ofNat i.val) := by decide +kernel
theorem keep_lower (b : UInt8) : keepB (lowerB b) = keepB b := by
  have h := keep_lower_fin ⟨b.toNat, b.toNat_lt⟩
  simpa using h
theorem isSp_lower (b : UInt8) : isSp (lowerB b) = isSp b := by
  have h := isSp_lower_fin ⟨b.toNat, b.toNat_lt⟩
  simpa using h
theorem dropWhile_map {α β : Type} (f : α → β) (p : β → Bool) (q : α → Bool) (h : ∀ a, p (f a) = q a) : ∀ l : List α, (l.map f).dropWhile p = (l.dropWhile q).map f
  | [] => rfl
  | a :: l => by
    simp only [List.map_cons, List.dropWhile_cons, h]
    split
    · exact dropWhile_map f p q h l
    · simp
theorem trimSpace_lower (l : List UInt8) : trimSpace (l.map lowerB) = (trimSpace l).map lowerB := by
  unfold trimSpace
  rw [dropWhile_map lowerB isSp isSp isSp_lower, ← List.map_reverse, dropWhile_map lowerB isSp isSp isSp_lower, ← List.map_reverse]
theorem normC_normS (l : List UInt8) : normC l = normS l := by
  unfold normC normS toLowerA
  rw [← trimSpace_lower]
  congr 1
  rw [List.filter_filter, List.filter_filter, List.filter_map]
  congr 1
  refine List.filter_congr fun b _ => ?_
  rw [Function.comp, keep_lower]
  unfold keepB
  cases (b != 46) <;> cases (b != 95) <;> cases (b != 45) <;> rfl
end Go.Proofs.YtpjoglnopfmjfaaDoor
