/-
  THE PLAIN LAWS OF THIS SEAT: how many bytes a size takes, its bytes, the header's bytes; no Go in sight.
-/
namespace Go.Proofs.Qxb6001654a.Plain

/-- each is a byte -/
def Byt (f : Nat → Int) : Prop := ∀ i, 0 ≤ f i ∧ f i ≤ 255

theorem pow_s (k : Nat) : (256 : Int) ^ (k + 1) = 256 ^ k * 256 := Int.pow_succ _ _
theorem pow_pos (k : Nat) : (0 : Int) < 256 ^ k := Int.pow_pos (by decide)
theorem pow_mono {k m : Nat} (h : k ≤ m) : (256 : Int) ^ k ≤ 256 ^ m := by
  induction m with
  | zero => have : k = 0 := by omega
            subst this; exact Int.le_refl _
  | succ m ih =>
    by_cases e : k = m + 1
    · subst e; exact Int.le_refl _
    · have := ih (by omega); have := pow_pos m; rw [pow_s]; omega
theorem pow8 : (256 : Int) ^ 8 = 18446744073709551616 := by decide
theorem pow_two (k : Nat) : (2 : Int) ^ (8 * k) = 256 ^ k := by rw [Int.pow_mul]; rfl

theorem div_step (v : Int) (j : Nat) : v / 256 ^ (j + 1) = v / 256 ^ j / 256 := by
  rw [pow_s, Int.ediv_ediv_of_nonneg (Int.le_of_lt (pow_pos j))]
theorem div_bd (v : Int) (h0 : 0 ≤ v) (j : Nat) : 0 ≤ v / 256 ^ j ∧ v / 256 ^ j ≤ v := by
  induction j with
  | zero => simp; omega
  | succ j ih => rw [div_step]; omega
theorem div_pos {v : Int} {j : Nat} (h : 256 ^ j ≤ v) : 1 ≤ v / 256 ^ j := by
  have hp := pow_pos j
  have h1 := Int.mul_ediv_add_emod v (256 ^ j)
  have h2 := Int.emod_lt_of_pos v hp
  by_cases h3 : 1 ≤ v / 256 ^ j
  · exact h3
  · exfalso
    have h4 : v / 256 ^ j ≤ 0 := by omega
    have h5 : 256 ^ j * (v / 256 ^ j) ≤ 0 := Int.mul_nonpos_of_nonneg_of_nonpos (Int.le_of_lt hp) h4
    omega
theorem le_of_div {v : Int} {j : Nat} (h : 1 ≤ v / 256 ^ j) : 256 ^ j ≤ v := by
  have hp := pow_pos j
  have h1 := Int.mul_ediv_add_emod v (256 ^ j)
  have h2 := Int.emod_nonneg v (show (256 : Int) ^ j ≠ 0 by omega)
  have h5 : 256 ^ j * 1 ≤ 256 ^ j * (v / 256 ^ j) := Int.mul_le_mul_of_nonneg_left h (Int.le_of_lt hp)
  omega
theorem lt_of_div {v : Int} {j : Nat} (h : v / 256 ^ j ≤ 0) : v < 256 ^ j := by
  by_cases h2 : 256 ^ j ≤ v
  · have := div_pos h2; omega
  · omega

/-- HOW MANY BYTES a size takes -/
def lb (s : Int) : Nat :=
  if s < 256 then 1 else if s < 65536 then 2 else if s < 16777216 then 3 else if s < 4294967296 then 4 else if s < 1099511627776 then 5 else if s < 281474976710656 then 6 else if s < 72057594037927936 then 7 else 8

theorem lb_bd (s : Int) : 1 ≤ lb s ∧ lb s ≤ 8 := by
  unfold lb
  repeat' split
  all_goals omega

theorem pows : (256 : Int) ^ 0 = 1 ∧ (256 : Int) ^ 1 = 256 ∧ (256 : Int) ^ 2 = 65536 ∧ (256 : Int) ^ 3 = 16777216 ∧ (256 : Int) ^ 4 = 4294967296 ∧ (256 : Int) ^ 5 = 1099511627776 ∧ (256 : Int) ^ 6 = 281474976710656 ∧ (256 : Int) ^ 7 = 72057594037927936 ∧ (256 : Int) ^ 8 = 18446744073709551616 := by decide

theorem lb_lt (s : Int) (h : s < 9223372036854775808) : s < 256 ^ lb s := by
  obtain ⟨p0, p1, p2, p3, p4, p5, p6, p7, p8⟩ := pows
  unfold lb
  repeat' split
  all_goals omega

theorem lb_le (s : Int) (h : 1 ≤ s) : 256 ^ (lb s - 1) ≤ s := by
  obtain ⟨p0, p1, p2, p3, p4, p5, p6, p7, p8⟩ := pows
  unfold lb
  repeat' split
  all_goals simp
  all_goals omega

theorem lb_is (s : Int) (h0 : 0 ≤ s) (h1 : s < 9223372036854775808) (k : Nat) (hk : 1 ≤ k) (hlt : s < 256 ^ k) (hle : k = 1 ∨ 256 ^ (k - 1) ≤ s) : lb s = k := by
  have hs := lb_lt s h1
  have hb := lb_bd s
  by_cases c1 : lb s < k
  · rcases hle with h | h
    · omega
    · have := pow_mono (show lb s ≤ k - 1 by omega)
      omega
  · by_cases c2 : k < lb s
    · have := pow_mono (show k ≤ lb s - 1 by omega)
      by_cases c3 : 1 ≤ s
      · have := lb_le s c3
        omega
      · have e : s = 0 := by omega
        subst e
        have : lb 0 = 1 := by simp [lb]
        omega
    · omega

/-! ### the header -/
/-- THE HEADER's LENGTH -/
def hl (s : Int) : Nat := if s < 56 then 1 else 1 + lb s
theorem hl_bd (s : Int) : 1 ≤ hl s ∧ hl s ≤ 9 := by
  have := lb_bd s
  unfold hl; split <;> omega

/-- byte k behind the first, of the long form -/
def sb (s : Int) (k : Nat) : Int := s / 256 ^ (lb s - 1 - k) % 256
/-- THE HEADER's BYTES -/
def hb (off s : Int) : Nat → Int
  | 0 => if s < 56 then off + s else off + 55 + lb s
  | k + 1 => sb s k

/-- what stands behind the call: the old bytes, then the header -/
def both (f : Nat → Int) (n : Nat) (off s : Int) (i : Nat) : Int := if i < n then f i else hb off s (i - n)
theorem both_lt (f : Nat → Int) (n : Nat) (off s : Int) {i : Nat} (h : i < n) : both f n off s i = f i := by simp [both, h]
theorem both_ge (f : Nat → Int) (n : Nat) (off s : Int) (k : Nat) : both f n off s (n + k) = hb off s k := by
  unfold both; rw [if_neg (by omega), Nat.add_sub_cancel_left]

/-- the number that k of the bytes spell -/
theorem sb_step (s : Int) (k : Nat) (hk : k < lb s) : s / 256 ^ (lb s - (k + 1)) = s / 256 ^ (lb s - k) * 256 + sb s k := by
  have e1 : lb s - k = lb s - (k + 1) + 1 := by omega
  have e2 : lb s - 1 - k = lb s - (k + 1) := by omega
  unfold sb
  rw [e1, e2, div_step]
  omega

/-- the first of them is not 0, and below 128 where there are eight -/
theorem sb_top (s : Int) (h0 : 1 ≤ s) (h1 : s < 9223372036854775808) : 1 ≤ sb s 0 ∧ (lb s = 8 → sb s 0 < 128) := by
  have hle := div_pos (lb_le s h0)
  have hlt := lb_lt s h1
  have hb := lb_bd s
  have e : lb s = lb s - 1 + 1 := by omega
  rw [e, pow_s] at hlt
  have hq : s / 256 ^ (lb s - 1) < 256 := Int.ediv_lt_of_lt_mul (pow_pos _) (by rw [Int.mul_comm]; exact hlt)
  unfold sb
  rw [Nat.sub_zero]
  refine ⟨by omega, fun h8 => ?_⟩
  rw [h8] at hle hq ⊢
  have p7 : (256 : Int) ^ (8 - 1) = 72057594037927936 := by decide
  rw [p7] at *
  omega

theorem sb_bd (s : Int) (k : Nat) : 0 ≤ sb s k ∧ sb s k ≤ 255 := by unfold sb; omega
end Go.Proofs.Qxb6001654a.Plain
