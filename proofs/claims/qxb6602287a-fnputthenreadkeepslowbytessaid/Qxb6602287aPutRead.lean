/-
  FnPutThenReadKeepsLowBytes: the law's own walk.
-/
import Derived.Test.Qxb6602287aOwned
namespace Go.Proofs.Qxb6602287a.PutRead
open Go.RowKit Plain Walks Owned

/-- the mask of the low n bytes -/
theorem and_mask (V : Int) (hV : 0 ≤ V ∧ V < 18446744073709551616) (n : Nat) (h8 : n < 8) :
    bits .and .u64 V (IntKind.u64.wrap (IntKind.u64.wrap (2 ^ (8 * n)) - 1)) = V % 256 ^ n := by
  have hp := pow_pos n
  have hl : (256 : Int) ^ n ≤ 256 ^ 7 := pow_mono (by omega)
  have h7 : (256 : Int) ^ 7 = 72057594037927936 := by decide
  have e1 : IntKind.u64.wrap (IntKind.u64.wrap ((2 : Int) ^ (8 * n)) - 1) = 256 ^ n - 1 := by
    rw [pow_two, IntKind.wrap_u64, IntKind.wrap_u64]; omega
  rw [e1, u64_and V _ hV.1 hV.2 (by omega) (by omega)]
  have e2 : ((256 : Int) ^ n - 1).toNat = 2 ^ (8 * n) - 1 := by
    have h : ((2 ^ (8 * n) : Nat) : Int) = 256 ^ n := by rw [Int.natCast_pow]; exact pow_two n
    omega
  rw [e2, Nat.and_two_pow_sub_one_eq_mod, Int.natCast_emod]
  have h : ((2 ^ (8 * n) : Nat) : Int) = 256 ^ n := by rw [Int.natCast_pow]; exact pow_two n
  rw [h, Int.toNat_of_nonneg hV.1]

theorem law_nil (V : Int) (hV : 0 ≤ V ∧ V < 18446744073709551616) (w : World) : Calls Try.prog 8 #[.slice none 0 0, .int .u64 V] w fun e w' => e = .returned (.bool true) ∧ Below w.heap.size w w' := by
  have he : (0 == bits .and .u64 V 0) = true := by rw [u64_and V 0 hV.1 hV.2 (by omega) (by omega)]; simp
  go_enter Try.func8, Try.ntmps8
  go_wp2_with (first | (go_at_call 21; refine (bytes21 _ _ _ _ _ (by omega)).mono ?_; rintro e w' ⟨rfl, rfl⟩) | (go_at_call 19; refine (clone_nil' _).mono ?_; rintro e w' ⟨rfl, rfl⟩) | (go_at_call 20; refine (zzPut_nil _ _).mono ?_; rintro e w' ⟨rfl, rfl⟩) | (go_at_call 15; refine (zzRead_nil _).mono ?_; rintro e w' ⟨rfl, rfl⟩))
  go_ret
  exact ⟨rfl, Below.refl _ _⟩

set_option maxHeartbeats 400000 in
theorem law_some (V : Int) (hV : 0 ≤ V ∧ V < 18446744073709551616) (x : Addr) (n cap : Nat) (f : Nat → Int) (w : World) (hm : n ≤ 1048576) (hs : Seen w (some x) n f) :
    Calls Try.prog 8 #[.slice (some x) n cap, .int .u64 V] w fun e w' => e = .returned (.bool true) ∧ Below w.heap.size w w' := by
  go_enter Try.func8, Try.ntmps8
  go_wp2_with (go_at_call 21; refine (bytes21 _ _ _ _ _ hm).mono ?_; rintro e w' ⟨rfl, rfl⟩)
  go_wp2_with fail
  refine (clone_some x n cap f w hm hs).mono ?_
  rintro e w1 ⟨rfl, ho1, hb1⟩
  go_wp2_with fail
  refine (zzPut_own V hV w.heap.size w.heap.size n f w1 hm (Nat.le_refl _) ho1).mono ?_
  rintro e w2 ⟨rfl, ho2, hb2⟩
  have hB : Below w.heap.size w w2 := hb1.trans hb2
  clear ho1 hb1 hb2
  go_wp2_with fail
  refine (zzRead_own _ n (pb V n) (pb_byt V n) w2 hm ho2).mono ?_
  rintro e w3 ⟨rfl, rfl⟩
  by_cases h8 : (n : Int) < 8
  · have he : (rd (pb V n) n == bits .and .u64 V (IntKind.u64.wrap (IntKind.u64.wrap (2 ^ (8 * n)) - 1))) = true := by
      rw [and_mask V hV n (by omega), rd_pb V hV.1 hV.2 n, if_pos (by omega)]; simp
    go_wp2
    go_ret
    exact ⟨rfl, hB⟩
  · have he : (rd (pb V n) n == V) = true := by
      rw [rd_pb V hV.1 hV.2 n, if_neg (by omega)]; simp
    go_wp2
    go_ret
    exact ⟨rfl, hB⟩

theorem law (a : Option Addr) (n cap : Nat) (V : Int) (hV : 0 ≤ V ∧ V < 18446744073709551616) (f : Nat → Int) (w : World) (hm : n ≤ 9223372036854775807) (hs : Seen w a n f) (hn : a = none → n = 0 ∧ cap = 0) :
    Calls Try.prog 8 #[.slice a n cap, .int .u64 V] w fun e w' => e = .returned (.bool true) ∧ Below w.heap.size w w' := by
  by_cases h : n ≤ 1048576
  · cases a with
    | none =>
      obtain ⟨rfl, rfl⟩ := hn rfl
      exact law_nil V hV w
    | some x => exact law_some V hV x n cap f w h hs
  · clear hs hn
    go_enter Try.func8, Try.ntmps8
    go_wp2
    go_ret
    exact ⟨rfl, Below.refl _ _⟩
end Go.Proofs.Qxb6602287a.PutRead
