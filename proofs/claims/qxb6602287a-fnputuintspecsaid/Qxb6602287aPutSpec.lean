/-
  FnPutUintSpec: the law's own walk.
-/
import Derived.Test.Qxb6602287aOwned
namespace Go.Proofs.Qxb6602287a.PutSpec
open Go.RowKit Plain Walks Owned

theorem law_nil (V : Int) (w : World) : Calls Try.prog 7 #[.slice none 0 0, .int .u64 V] w fun e w' => e = .returned (.bool true) ∧ Below w.heap.size w w' := by
  go_enter Try.func7, Try.ntmps7
  go_wp2_with (first | (go_at_call 18; refine (bytes18 _ _ _ _ _ (by omega)).mono ?_; rintro e w' ⟨rfl, rfl⟩) | (go_at_call 19; refine (clone_nil' _).mono ?_; rintro e w' ⟨rfl, rfl⟩) | (go_at_call 20; refine (zzPut_nil _ _).mono ?_; rintro e w' ⟨rfl, rfl⟩))
  go_loop [6, 7, 8] (fun i _ _ => i = .int .i64 0) (fun _ _ _ => 0)
  case atStart => exact rfl
  case round =>
    obtain rfl := hrel
    go_wp2
    go_ret
    exact ⟨rfl, Below.refl _ _⟩

set_option maxHeartbeats 400000 in
theorem law_some (V : Int) (hV : 0 ≤ V ∧ V < 18446744073709551616) (x : Addr) (n cap : Nat) (f : Nat → Int) (w : World) (hm : n ≤ 1048576) (hs : Seen w (some x) n f) :
    Calls Try.prog 7 #[.slice (some x) n cap, .int .u64 V] w fun e w' => e = .returned (.bool true) ∧ Below w.heap.size w w' := by
  go_enter Try.func7, Try.ntmps7
  go_wp2_with (go_at_call 18; refine (bytes18 _ _ _ _ _ hm).mono ?_; rintro e w' ⟨rfl, rfl⟩)
  go_wp2_with fail
  refine (clone_some x n cap f w hm hs).mono ?_
  rintro e w1 ⟨rfl, ho1, hb1⟩
  go_wp2_with fail
  refine (zzPut_own V hV w.heap.size w.heap.size n f w1 hm (Nat.le_refl _) ho1).mono ?_
  rintro e w2 ⟨rfl, ho2, hb2⟩
  have hB : Below w.heap.size w w2 := hb1.trans hb2
  clear ho1 hb1 hb2
  go_wp2
  go_loop [6, 7, 8] (fun i _ _ => ∃ k : Nat, k ≤ n ∧ i = .int .i64 k) (fun i _ _ => n - (intOf i).toNat)
  case atStart => exact ⟨0, Nat.zero_le _, rfl⟩
  case round =>
    obtain ⟨k, hk, rfl⟩ := hrel
    by_cases hlt : k < n
    · have hc := ho2.cell k hlt
      by_cases h8 : (n : Int) - 1 - (k : Int) < 8
      · have he : (pb V n k != V / 2 ^ (8 * (n - 1 - k)) % 256) = false := by rw [pow_two]; simp [pb]
        go_wp2
        go_round
        case rel => exact ⟨k + 1, by omega, by go_num⟩
        case measure => simp [intOf]; omega
      · have he : (pb V n k != 0) = false := by rw [pb_far V hV.1 hV.2 n k (by omega)]; rfl
        go_wp2
        go_round
        case rel => exact ⟨k + 1, by omega, by go_num⟩
        case measure => simp [intOf]; omega
    · go_wp2
      go_ret
      exact ⟨rfl, hB⟩

theorem law (a : Option Addr) (n cap : Nat) (V : Int) (hV : 0 ≤ V ∧ V < 18446744073709551616) (f : Nat → Int) (w : World) (hm : n ≤ 9223372036854775807) (hs : Seen w a n f) (hn : a = none → n = 0 ∧ cap = 0) :
    Calls Try.prog 7 #[.slice a n cap, .int .u64 V] w fun e w' => e = .returned (.bool true) ∧ Below w.heap.size w w' := by
  by_cases h : n ≤ 1048576
  · cases a with
    | none =>
      obtain ⟨rfl, rfl⟩ := hn rfl
      exact law_nil V w
    | some x => exact law_some V hV x n cap f w h hs
  · clear hs hn
    go_enter Try.func7, Try.ntmps7
    go_wp2
    go_ret
    exact ⟨rfl, Below.refl _ _⟩
end Go.Proofs.Qxb6602287a.PutSpec
