/-
  decodeHeaderB1 at a header as appendHeader writes it.
-/
import Derived.Test.Qxb6001654aWalks
namespace Go.Proofs.Qxb6001654a.Decode
open Go.RowKit Plain Walks

set_option maxHeartbeats 400000 in
theorem short (g o cap : Nat) (off s : Int) (_ho : 0 ≤ off ∧ off ≤ 192) (h0 : 0 ≤ s) (h56 : s < 56) (w : World) (hc : w.cell? ⟨g, o, none⟩ = some (.int .u8 (off + s))) :
    Calls Try.prog 9 #[.slice (some ⟨g, o, none⟩) 1 cap, .int .u8 off] w fun e w' => e = .returned (.tuple #[.int .i64 s, .bool true]) ∧ w = w' := by
  have e1 : off + s - off = s := by omega
  go_enter Try.func9, Try.ntmps9
  go_wp2
  go_ret2
  exact ⟨by simp, rfl⟩

/-- 'v<<8 | int(c)' on an int, c a byte, while nothing is lost -/
theorem or_byte {v c : Int} (hv : 0 ≤ v ∧ v * 256 < 9223372036854775808) (hc : 0 ≤ c ∧ c ≤ 255) : bits .or .i64 (v * 256) c = v * 256 + c := by
  refine bits_join .i64 63 (by decide) (fun n h1 h2 => ?_) 8 (v * 256) c (by omega) (by omega) (by omega) hc.1 (by omega) (by omega)
  rw [IntKind.wrap_i64]; omega

set_option maxHeartbeats 1000000 in
theorem long (g o cap : Nat) (off s : Int) (_ho : 0 ≤ off ∧ off ≤ 192) (h56 : 56 ≤ s) (h1 : s < 9223372036854775808) (w : World) (hc : ∀ i, i < 1 + lb s → w.cell? ⟨g, o + i, none⟩ = some (.int .u8 (hb off s i))) :
    Calls Try.prog 9 #[.slice (some ⟨g, o, none⟩) (1 + lb s) cap, .int .u8 off] w fun e w' => e = .returned (.tuple #[.int .i64 s, .bool true]) ∧ w = w' := by
  have hbd := lb_bd s
  have ht := sb_top s (by omega) h1
  have hsb := sb_bd s 0
  have hc0 : w.cell? ⟨g, o, none⟩ = some (.int .u8 (off + 55 + (lb s : Int))) := by
    have := hc 0 (by omega)
    rw [Nat.add_zero] at this
    rw [this]
    simp [hb]; omega
  have hc1 : w.cell? ⟨g, o + 1, none⟩ = some (.int .u8 (sb s 0)) := hc 1 (by omega)
  obtain ⟨t0, hT⟩ : ∃ t0, t0 = sb s 0 := ⟨_, rfl⟩
  rw [← hT] at hc1 ht hsb
  clear hT
  obtain ⟨ht1, ht2⟩ := ht
  have n0 : (t0 == 0) = false := by simp; omega
  have HC : Hid (∀ k, k < lb s → w.cell? ⟨g, o + (k + 1), none⟩ = some (.int .u8 (sb s k))) := fun k hk => hc (k + 1) (by omega)
  have HT : Hid (∀ k, k < lb s → s / 256 ^ (lb s - (k + 1)) = s / 256 ^ (lb s - k) * 256 + sb s k) := fun k hk => sb_step s k hk
  have HZ : Hid (s / 256 ^ lb s = 0) := Int.ediv_eq_zero_of_lt (by omega) (lb_lt s h1)
  clear hc
  generalize lb s = m at *
  have e1 : off + 55 + (m : Int) - off = 55 + (m : Int) := by omega
  have e2 : 55 + (m : Int) - 55 = (m : Int) := by omega
  have hpick : ((m : Int) == 8) = true ∧ t0 < 128 ∨ ((m : Int) == 8) = false := by
    by_cases h8 : m = 8
    · exact Or.inl ⟨by simp [h8], ht2 h8⟩
    · exact Or.inr (by simp; omega)
  clear ht2
  rcases hpick with ⟨n8, h128⟩ | n8
  all_goals
    go_enter Try.func9, Try.ntmps9
    go_wp2
    go_loop [9, 10] (fun v i => ∃ k : Nat, k ≤ m ∧ i = .int .i64 ((k + 1 : Nat) : Int) ∧ v = .int .i64 (s / 256 ^ (m - k))) (fun _ i => m + 1 - (intOf i).toNat)
    case atStart => exact ⟨0, Nat.zero_le _, rfl, by rw [Nat.sub_zero, HZ.out]⟩
    case round =>
      obtain ⟨k, hk, rfl, rfl⟩ := hrel
      by_cases hlt : k < m
      · have hck := HC.out k hlt
        have hcb := sb_bd s k
        have hst := HT.out k hlt
        have hd := div_bd s (by omega) (m - k)
        have hd2 := div_bd s (by omega) (m - (k + 1))
        rw [hst] at hd2
        have HS : Hid (s / 256 ^ (m - (k + 1)) = s / 256 ^ (m - k) * 256 + sb s k) := hst
        clear hst
        generalize s / 256 ^ (m - k) = q at *
        generalize sb s k = c at *
        have hor := or_byte (v := q) (c := c) (by omega) hcb
        have HO : Hid (bits .or .i64 (q * 256) c = q * 256 + c) := hor
        clear hor
        go_wp2
        go_round
        case rel => exact ⟨k + 1, by omega, by go_num, by rw [HS.out, HO.out]⟩
        case measure => simp [intOf]; omega
      · have ek : s / 256 ^ (m - k) = s := by rw [show m - k = 0 by omega]; simp
        rw [ek]
        clear ek
        go_wp2
        go_ret2
        exact ⟨rfl, rfl⟩

theorem decode_any (g o cap : Nat) (off s : Int) (ho : 0 ≤ off ∧ off ≤ 192) (h0 : 0 ≤ s) (h1 : s < 9223372036854775808) (w : World) (hc : ∀ i, i < hl s → w.cell? ⟨g, o + i, none⟩ = some (.int .u8 (hb off s i))) :
    Calls Try.prog 9 #[.slice (some ⟨g, o, none⟩) (hl s) cap, .int .u8 off] w fun e w' => e = .returned (.tuple #[.int .i64 s, .bool true]) ∧ w = w' := by
  by_cases h56 : s < 56
  · have e : hl s = 1 := by simp [hl, h56]
    have hc0 := hc 0 (by omega)
    rw [Nat.add_zero] at hc0
    have eb : hb off s 0 = off + s := by simp [hb, h56]
    rw [eb] at hc0
    rw [e]
    exact short g o cap off s ho h0 h56 w hc0
  · have e : hl s = 1 + lb s := by simp [hl, h56]
    rw [e] at hc ⊢
    exact long g o cap off s ho (by omega) h1 w hc
end Go.Proofs.Qxb6001654a.Decode
