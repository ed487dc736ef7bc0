/- Plain functions on bytes: numbers with the highest octet first, numbers in groups of seven bits. No program in sight. -/
namespace Go.Proofs.Ytkhpglongkhbjaa

/-- The lowest octet of a number. -/
def bb (n : Int) : UInt8 := UInt8.ofNat (n % 256).toNat
def be16 (x : Int) : List UInt8 := [bb (x / 256), bb x]
def be32 (x : Int) : List UInt8 := [bb (x / 16777216), bb (x / 65536), bb (x / 256), bb x]
def be64 (x : Int) : List UInt8 := [bb (x / 72057594037927936), bb (x / 281474976710656), bb (x / 1099511627776), bb (x / 4294967296), bb (x / 16777216), bb (x / 65536), bb (x / 256), bb x]
/-- A number in groups of seven bits, the lowest first. -/
def uvF : Nat → Nat → List UInt8
  | 0, n => [UInt8.ofNat n]
  | k + 1, n => if n < 128 then [UInt8.ofNat n] else UInt8.ofNat (n % 128 + 128) :: uvF k (n / 128)
def uv (n : Nat) : List UInt8 := uvF 9 n
theorem be16_length (x : Int) : (be16 x).length = 2 := rfl
theorem be32_length (x : Int) : (be32 x).length = 4 := rfl
theorem be64_length (x : Int) : (be64 x).length = 8 := rfl
theorem bb_mod (x : Int) : bb (x % 256) = bb x := by unfold bb; congr 2; omega
theorem be16_mod (x : Int) : be16 (x % 65536) = be16 x := by
  unfold be16 bb; simp only [List.cons.injEq, and_true]; refine ⟨?_, ?_⟩ <;> (congr 2; omega)
theorem be32_mod (x : Int) : be32 (x % 4294967296) = be32 x := by
  unfold be32 bb; simp only [List.cons.injEq, and_true]; refine ⟨?_, ?_, ?_, ?_⟩ <;> (congr 2; omega)
theorem be64_mod (x : Int) : be64 (x % 18446744073709551616) = be64 x := by
  unfold be64 bb; simp only [List.cons.injEq, and_true]; refine ⟨?_, ?_, ?_, ?_, ?_, ?_, ?_, ?_⟩ <;> (congr 2; omega)
theorem uv1 {n : Nat} (h : n < 128) : uv n = [UInt8.ofNat n] := by simp [uv, uvF, h]
theorem uv2 {n : Nat} (h : 128 ≤ n) (h' : n < 16384) : uv n = [UInt8.ofNat (n % 128 + 128), UInt8.ofNat (n / 128)] := by
  have h1 : ¬ n < 128 := by omega
  have h2 : n / 128 < 128 := by omega
  simp [uv, uvF, h1, h2]
theorem uv3 {n : Nat} (h : 16384 ≤ n) (h' : n < 2097152) : uv n = [UInt8.ofNat (n % 128 + 128), UInt8.ofNat (n / 128 % 128 + 128), UInt8.ofNat (n / 16384)] := by
  have h1 : ¬ n < 128 := by omega
  have h2 : ¬ n / 128 < 128 := by omega
  have h3 : n / 128 / 128 < 128 := by omega
  have e : n / 128 / 128 = n / 16384 := by omega
  simp [uv, uvF, h1, h2, e]
  omega
theorem uv4 {n : Nat} (h : 2097152 ≤ n) (h' : n < 268435456) : uv n = [UInt8.ofNat (n % 128 + 128), UInt8.ofNat (n / 128 % 128 + 128), UInt8.ofNat (n / 16384 % 128 + 128), UInt8.ofNat (n / 2097152)] := by
  have h1 : ¬ n < 128 := by omega
  have h2 : ¬ n / 128 < 128 := by omega
  have h3 : ¬ n / 128 / 128 < 128 := by omega
  have h4 : n / 128 / 128 / 128 < 128 := by omega
  have e : n / 128 / 128 = n / 16384 := by omega
  have e2 : n / 16384 / 128 = n / 2097152 := by omega
  rw [e] at h3 h4
  rw [e2] at h4
  simp [uv, uvF, h1, h2, h3, h4, e, e2]
theorem uv5 {n : Nat} (h : 268435456 ≤ n) (h' : n < 4294967296) : uv n = [UInt8.ofNat (n % 128 + 128), UInt8.ofNat (n / 128 % 128 + 128), UInt8.ofNat (n / 16384 % 128 + 128), UInt8.ofNat (n / 2097152 % 128 + 128), UInt8.ofNat (n / 268435456)] := by
  have h1 : ¬ n < 128 := by omega
  have h2 : ¬ n / 128 < 128 := by omega
  have h3 : ¬ n / 128 / 128 < 128 := by omega
  have h4 : ¬ n / 128 / 128 / 128 < 128 := by omega
  have h5 : n / 128 / 128 / 128 / 128 < 128 := by omega
  have e : n / 128 / 128 = n / 16384 := by omega
  have e2 : n / 16384 / 128 = n / 2097152 := by omega
  have e3 : n / 2097152 / 128 = n / 268435456 := by omega
  rw [e] at h3 h4 h5
  rw [e2] at h4 h5
  rw [e3] at h5
  simp [uv, uvF, h1, h2, h3, h4, h5, e, e2, e3]
theorem uvF_length (k n : Nat) : (uvF k n).length ≤ k + 1 ∧ 1 ≤ (uvF k n).length := by
  induction k generalizing n with
  | zero => simp [uvF]
  | succ k ih =>
    unfold uvF
    split
    · simp
    · have := ih (n / 128)
      simp only [List.length_cons]
      omega
theorem uv_length (n : Nat) : (uv n).length ≤ 10 := (uvF_length 9 n).1
theorem uv_pos (n : Nat) : 1 ≤ (uv n).length := (uvF_length 9 n).2

end Go.Proofs.Ytkhpglongkhbjaa
