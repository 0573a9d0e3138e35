/-
  THE PLAIN LAWS OF THIS SEAT: big-endian numbers out of bytes; no Go in sight. A row of bytes is a function 'f : Nat → Int'.
-/
namespace Go.Proofs.Qxb6602287a.Plain

/-- each is a byte -/
def Byt (f : Nat → Int) : Prop := ∀ i, 0 ≤ f i ∧ f i ≤ 255

/-- the big-endian number of the k bytes from place lo on -/
def val (f : Nat → Int) (lo : Nat) : Nat → Int
  | 0 => 0
  | k + 1 => val f lo k * 256 + f (lo + k)

theorem val_zero (f : Nat → Int) (lo : Nat) : val f lo 0 = 0 := rfl
theorem val_succ (f : Nat → Int) (lo k : Nat) : val f lo (k + 1) = val f lo k * 256 + f (lo + k) := rfl

theorem pow_s (k : Nat) : (256 : Int) ^ (k + 1) = 256 ^ k * 256 := Int.pow_succ _ _
theorem pow_pos (k : Nat) : (0 : Int) < 256 ^ k := Int.pow_pos (by decide)
theorem pow_mono {k m : Nat} (h : k ≤ m) : (256 : Int) ^ k ≤ 256 ^ m := by
  induction m with
  | zero => have : k = 0 := by omega
            subst this; exact Int.le_refl _
  | succ m ih =>
    by_cases e : k = m + 1
    · subst e; exact Int.le_refl _
    · have := ih (by omega); have := pow_pos m; rw [pow_s]; omega
/-- the rest by a product, digit and rest -/
theorem mod_mul (q Q : Int) (hQ : 0 < Q) : q % (256 * Q) = q / 256 % Q * 256 + q % 256 := by
  have h1 := Int.mul_ediv_add_emod (q / 256) Q
  have h2 := Int.mul_ediv_add_emod q 256
  have h3 := Int.emod_nonneg (q / 256) (show Q ≠ 0 by omega)
  have h4 := Int.emod_lt_of_pos (q / 256) hQ
  have e : q = (q / 256 % Q * 256 + q % 256) + 256 * Q * (q / 256 / Q) := by
    rw [Int.mul_assoc]; omega
  have e2 : q % (256 * Q) = ((q / 256 % Q * 256 + q % 256) + 256 * Q * (q / 256 / Q)) % (256 * Q) := by rw [← e]
  rw [e2, Int.add_mul_emod_self_left, Int.emod_eq_of_lt (by omega) (by omega)]

theorem val_nonneg {f : Nat → Int} (hf : Byt f) (lo k : Nat) : 0 ≤ val f lo k := by
  induction k with
  | zero => exact Int.le_refl _
  | succ k ih => have := hf (lo + k); rw [val_succ]; omega

theorem val_lt {f : Nat → Int} (hf : Byt f) (lo k : Nat) : val f lo k < 256 ^ k := by
  induction k with
  | zero => simp [val_zero]
  | succ k ih => have := hf (lo + k); rw [val_succ, pow_s]; omega

theorem val_add (f : Nat → Int) (lo a k : Nat) : val f lo (a + k) = val f lo a * 256 ^ k + val f (lo + a) k := by
  induction k with
  | zero => simp [val_zero]
  | succ k ih =>
    have e : val f lo (a + (k + 1)) = val f lo (a + k) * 256 + f (lo + (a + k)) := rfl
    have h2 : lo + (a + k) = lo + a + k := by omega
    rw [e, ih, val_succ, pow_s, ← Int.mul_assoc, h2]
    omega

/-- the first byte taken off -/
theorem val_front (f : Nat → Int) (lo k : Nat) : val f lo (k + 1) = f lo * 256 ^ k + val f (lo + 1) k := by
  have h := val_add f lo 1 k
  rw [Nat.add_comm 1 k] at h
  rw [h]
  have e : val f lo 1 = f lo := by simp [val]
  rw [e]

/-- WHAT readUint GIVES: the number, cut to 64 bits -/
def rd (f : Nat → Int) (n : Nat) : Int := val f 0 n % 18446744073709551616

theorem rd_bd (f : Nat → Int) (n : Nat) : 0 ≤ rd f n ∧ rd f n < 18446744073709551616 := by unfold rd; omega
theorem rd_zero (f : Nat → Int) : rd f 0 = 0 := rfl
theorem rd_succ (f : Nat → Int) (n : Nat) : rd f (n + 1) = (rd f n * 256 + f n) % 18446744073709551616 := by
  unfold rd; rw [val_succ, Nat.zero_add]; omega
theorem rd_step {f : Nat → Int} (hf : Byt f) (n : Nat) : rd f (n + 1) = rd f n * 256 % 18446744073709551616 + f n := by
  rw [rd_succ]
  have := hf n
  have := rd_bd f n
  omega

theorem pow8 : (256 : Int) ^ 8 = 18446744073709551616 := by decide
theorem pow_le8 (k : Nat) (h : k ≤ 8) : (256 : Int) ^ k ≤ 18446744073709551616 := by
  rw [← pow8]; exact pow_mono h

/-- only the last eight bytes count -/
theorem rd_tail {f : Nat → Int} (hf : Byt f) (n m : Nat) (hm : m ≤ n) (h8 : m = 8 ∨ (m = n ∧ n ≤ 8)) : rd f n = val f (n - m) m := by
  have h1 := val_nonneg hf (n - m) m
  have h2 := val_lt hf (n - m) m
  have h3 := pow_le8 m (by omega)
  rcases h8 with rfl | ⟨rfl, h⟩
  · have e := val_add f 0 (n - 8) 8
    have e2 : n - 8 + 8 = n := by omega
    rw [e2, Nat.zero_add, pow8] at e
    unfold rd
    rw [e]
    rw [pow8] at h2
    omega
  · unfold rd
    rw [Nat.sub_self] at *
    omega

/-! ### the order -/
theorem val_lt_of {f g : Nat → Int} (hf : Byt f) (hg : Byt g) (lo j r : Nat) (h : val f lo j < val g lo j) : val f lo (j + r) < val g lo (j + r) := by
  induction r with
  | zero => exact h
  | succ r ih =>
    have e1 : val f lo (j + (r + 1)) = val f lo (j + r) * 256 + f (lo + (j + r)) := rfl
    have e2 : val g lo (j + (r + 1)) = val g lo (j + r) * 256 + g (lo + (j + r)) := rfl
    have := hf (lo + (j + r)); have := hg (lo + (j + r))
    rw [e1, e2]; omega

theorem val_same {f g : Nat → Int} (lo j : Nat) (h : ∀ t, t < j → f (lo + t) = g (lo + t)) : val f lo j = val g lo j := by
  induction j with
  | zero => rfl
  | succ j ih => rw [val_succ, val_succ, ih (fun t ht => h t (by omega)), h j (by omega)]

/-- the first byte that differs decides -/
theorem val_first {f g : Nat → Int} (hf : Byt f) (hg : Byt g) (lo j m : Nat) (hj : j < m) (h : ∀ t, t < j → f (lo + t) = g (lo + t)) (hlt : f (lo + j) < g (lo + j)) : val f lo m < val g lo m := by
  have e : m = (j + 1) + (m - (j + 1)) := by omega
  rw [e]
  apply val_lt_of hf hg
  rw [val_succ, val_succ, val_same lo j h]
  omega

/-! ### the tail's sum, byte k from the end weighing 256^k -/
def tb (f : Nat → Int) (n k : Nat) : Int := if n ≤ k then 0 else f (n - 1 - k)
def tv (f : Nat → Int) (n : Nat) : Nat → Int
  | 0 => 0
  | k + 1 => tv f n k + tb f n k * 256 ^ k

theorem tb_bd {f : Nat → Int} (hf : Byt f) (n k : Nat) : 0 ≤ tb f n k ∧ tb f n k ≤ 255 := by
  unfold tb; split
  · omega
  · exact hf _
theorem tv_succ (f : Nat → Int) (n k : Nat) : tv f n (k + 1) = tv f n k + tb f n k * 256 ^ k := rfl
theorem tv_bd {f : Nat → Int} (hf : Byt f) (n k : Nat) : 0 ≤ tv f n k ∧ tv f n k < 256 ^ k := by
  induction k with
  | zero => simp [tv]
  | succ k ih =>
    have h := tb_bd hf n k
    have hp := pow_pos k
    have h1 : 0 ≤ tb f n k * 256 ^ k := Int.mul_nonneg h.1 (by omega)
    have h2 : tb f n k * 256 ^ k ≤ 255 * 256 ^ k := Int.mul_le_mul_of_nonneg_right h.2 (by omega)
    rw [tv_succ, pow_s]; omega

theorem tv_val (f : Nat → Int) (n k : Nat) : tv f n k = if n ≤ k then val f 0 n else val f (n - k) k := by
  induction k with
  | zero =>
    by_cases h : n ≤ 0
    · have : n = 0 := by omega
      subst this; rfl
    · rw [if_neg h]; rfl
  | succ k ih =>
    rw [tv_succ, ih]
    by_cases h : n ≤ k
    · rw [if_pos h, if_pos (by omega)]; simp [tb, h]
    · rw [if_neg h]
      have hf := val_front f (n - (k + 1)) k
      have e1 : n - (k + 1) + 1 = n - k := by omega
      have e2 : n - 1 - k = n - (k + 1) := by omega
      rw [e1] at hf
      have ht : tb f n k = f (n - (k + 1)) := by unfold tb; rw [if_neg h, e2]
      by_cases h' : n ≤ k + 1
      · have hn : n = k + 1 := by omega
        rw [if_pos h', ht]
        subst hn
        rw [Nat.sub_self] at hf ⊢
        rw [hf]; omega
      · rw [if_neg h', ht, hf]; omega

/-- THE LAW OF FnReadUintSpec -/
theorem rd_tv {f : Nat → Int} (hf : Byt f) (n : Nat) : rd f n = tv f n 8 := by
  rw [tv_val]
  by_cases h : n ≤ 8
  · rw [if_pos h, rd_tail hf n n (Nat.le_refl _) (Or.inr ⟨rfl, h⟩), Nat.sub_self]
  · rw [if_neg h, rd_tail hf n 8 (by omega) (Or.inl rfl)]

/-! ### what putUint writes -/
/-- byte i of n, of the number v -/
def pb (v : Int) (n i : Nat) : Int := v / 256 ^ (n - 1 - i) % 256
theorem pb_bd (v : Int) (n i : Nat) : 0 ≤ pb v n i ∧ pb v n i ≤ 255 := by unfold pb; omega
theorem pb_byt (v : Int) (n : Nat) : Byt (pb v n) := fun i => pb_bd v n i

theorem div_step (v : Int) (j : Nat) : v / 256 ^ (j + 1) = v / 256 ^ j / 256 := by
  rw [pow_s, Int.ediv_ediv_of_nonneg (Int.le_of_lt (pow_pos j))]

theorem div_bd (v : Int) (h0 : 0 ≤ v) (h1 : v < 18446744073709551616) (j : Nat) : 0 ≤ v / 256 ^ j ∧ v / 256 ^ j < 18446744073709551616 := by
  induction j with
  | zero => simp; omega
  | succ j ih => rw [div_step]; omega

theorem div_far (v : Int) (h0 : 0 ≤ v) (h1 : v < 18446744073709551616) (k : Nat) (h : 8 ≤ k) : v / 256 ^ k = 0 := by
  apply Int.ediv_eq_zero_of_lt h0
  have : (256 : Int) ^ 8 ≤ 256 ^ k := pow_mono h
  rw [pow8] at this
  omega

theorem pb_far (v : Int) (h0 : 0 ≤ v) (h1 : v < 18446744073709551616) (n i : Nat) (h : 8 ≤ n - 1 - i) : pb v n i = 0 := by
  unfold pb; rw [div_far v h0 h1 _ h]; rfl

/-- the number that the first k of n bytes of v spell: v without its low n - k bytes, and no more than k bytes of it -/
theorem val_pb (v : Int) (n k : Nat) (hk : k ≤ n) : val (pb v n) 0 k = v / 256 ^ (n - k) % 256 ^ k := by
  induction k with
  | zero => simp [val_zero, Int.emod_one]
  | succ k ih =>
    rw [val_succ, ih (by omega), Nat.zero_add]
    unfold pb
    have e1 : n - k = n - (k + 1) + 1 := by omega
    have e2 : n - 1 - k = n - (k + 1) := by omega
    rw [e1, e2, div_step, pow_s]
    generalize v / 256 ^ (n - (k + 1)) = q
    rw [Int.mul_comm (256 ^ k) 256, mod_mul _ _ (pow_pos k)]

/-- THE LAW OF FnPutThenReadKeepsLowBytes -/
theorem rd_pb (v : Int) (h0 : 0 ≤ v) (h1 : v < 18446744073709551616) (n : Nat) : rd (pb v n) n = if n < 8 then v % 256 ^ n else v := by
  unfold rd
  rw [val_pb v n n (Nat.le_refl _), Nat.sub_self, Int.pow_zero, Int.ediv_one]
  have hp := pow_pos n
  by_cases h : n < 8
  · rw [if_pos h]
    have h3 := pow_le8 n (by omega)
    have := Int.emod_nonneg v (show (256 : Int) ^ n ≠ 0 by omega)
    have := Int.emod_lt_of_pos v hp
    omega
  · rw [if_neg h]
    have : (256 : Int) ^ 8 ≤ 256 ^ n := pow_mono (by omega)
    rw [pow8] at this
    rw [Int.emod_eq_of_lt h0 (by omega)]
    omega

/-! ### put what was read -/
theorem pb_val {f : Nat → Int} (hf : Byt f) (lo m i : Nat) (hi : i < m) : val f lo m / 256 ^ (m - 1 - i) % 256 = f (lo + i) := by
  have e : m = (i + 1) + (m - 1 - i) := by omega
  have h := val_add f lo (i + 1) (m - 1 - i)
  rw [← e] at h
  rw [h]
  have hp := pow_pos (m - 1 - i)
  have h1 := val_nonneg hf (lo + (i + 1)) (m - 1 - i)
  have h2 := val_lt hf (lo + (i + 1)) (m - 1 - i)
  rw [Int.add_comm, Int.add_mul_ediv_right _ _ (by omega), Int.ediv_eq_zero_of_lt h1 h2, val_succ]
  have := hf (lo + i)
  omega

/-- THE LAW OF FnReadThenPutRestores -/
theorem pb_rd {f : Nat → Int} (hf : Byt f) (n i : Nat) (hi : i < n) : pb (rd f n) n i = if n - 1 - i < 8 then f i else 0 := by
  have hb := rd_bd f n
  by_cases h : n - 1 - i < 8
  · rw [if_pos h]
    unfold pb
    by_cases h8 : n ≤ 8
    · rw [rd_tail hf n n (Nat.le_refl _) (Or.inr ⟨rfl, h8⟩), Nat.sub_self, pb_val hf 0 n i hi, Nat.zero_add]
    · rw [rd_tail hf n 8 (by omega) (Or.inl rfl)]
      have e : n - 1 - i = 8 - 1 - (i - (n - 8)) := by omega
      rw [e, pb_val hf (n - 8) 8 (i - (n - 8)) (by omega)]
      congr 1; omega
  · rw [if_neg h, pb_far _ hb.1 hb.2 _ _ (by omega)]

end Go.Proofs.Qxb6602287a.Plain
