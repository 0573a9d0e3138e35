/-
  FnAppendHeaderLengthIsHeaderSize: the law's own walk.
-/
import Derived.Test.Qxb6001654aWalks
namespace Go.Proofs.Qxb6001654a.Length
open Go.RowKit Plain Walks

theorem bytes10 (a : Option Addr) (n cap : Nat) (off s : Int) (w : World) (h : n ≤ 1048576) :
    Calls Try.prog 10 #[.slice a n cap, .int .u8 off, .int .i64 s] w fun e w' => e = .returned (.bool true) ∧ w = w' := by
  go_enter Try.func10, Try.ntmps10
  go_wp2
  go_ret
  exact ⟨rfl, rfl⟩

set_option maxHeartbeats 400000 in
theorem law_some (x : Addr) (n cap : Nat) (f : Nat → Int) (off s : Int) (ho : off = 128 ∨ off = 192) (h0 : 0 ≤ s) (h1 : s < 9223372036854775808) (w : World) (hm : n ≤ 1048576) (hs : Seen w (some x) n f) :
    Calls Try.prog 4 #[.slice (some x) n cap, .int .u8 off, .int .i64 s] w fun e w' => e = .returned (.bool true) ∧ Below w.heap.size w w' := by
  have hb := hl_bd s
  have he : ((n : Int) + (hl s : Int) - (n : Int) == (hl s : Int)) = true := by simp; omega
  rcases ho with rfl | rfl
  all_goals
    go_enter Try.func4, Try.ntmps4
    go_wp2_with (go_at_call 10; refine (bytes10 _ _ _ _ _ _ hm).mono ?_; rintro e w' ⟨rfl, rfl⟩)
    go_wp2_with fail
    refine (clone_some x n cap f w hm hs).mono ?_
    rintro e w1 ⟨rfl, ho1, hb1⟩
    go_wp2_with fail
    refine (zzAppend_any _ n f _ s (by omega) h0 h1 w1 hm (fun h => by cases h) (own_cells ho1)).mono ?_
    rintro e w2 ⟨g, c2, rfl, hle, hmx, _, hb2⟩
    have hB : Below w.heap.size w w2 := hb1.trans (hb2.mono (Nat.le_of_lt ho1.size))
    unfold maxLen at hmx
    clear ho1 hb1 hb2 hs
    go_wp2_with (go_at_call 11; refine (zzHeaderSize_any s h0 h1 _).mono ?_; rintro e w' ⟨rfl, rfl⟩)
    go_ret
    exact ⟨rfl, hB⟩

set_option maxHeartbeats 400000 in
theorem law_nil (off s : Int) (ho : off = 128 ∨ off = 192) (h0 : 0 ≤ s) (h1 : s < 9223372036854775808) (w : World) :
    Calls Try.prog 4 #[.slice none 0 0, .int .u8 off, .int .i64 s] w fun e w' => e = .returned (.bool true) ∧ Below w.heap.size w w' := by
  have hb := hl_bd s
  have he : ((hl s : Int) == (hl s : Int)) = true := by simp
  rcases ho with rfl | rfl
  all_goals
    go_enter Try.func4, Try.ntmps4
    go_wp2_with (go_at_call 10; refine (bytes10 _ _ _ _ _ _ (by omega)).mono ?_; rintro e w' ⟨rfl, rfl⟩)
    go_wp2_with fail
    refine (clone_nil w).mono ?_
    rintro e w1 ⟨rfl, rfl⟩
    go_wp2_with fail
    refine (zzAppend_any none 0 (fun _ => 0) _ s (by omega) h0 h1 w (by omega) (fun _ => rfl) (fun b h => by cases h)).mono ?_
    rintro e w2 ⟨g, c2, rfl, hle, hmx, _, hB⟩
    unfold maxLen at hmx
    rw [Nat.zero_add] at hle ⊢
    go_wp2_with (go_at_call 11; refine (zzHeaderSize_any s h0 h1 _).mono ?_; rintro e w' ⟨rfl, rfl⟩)
    go_ret
    exact ⟨rfl, hB⟩

theorem law (a : Option Addr) (n cap : Nat) (f : Nat → Int) (off s : Int) (hoff : 0 ≤ off ∧ off ≤ 255) (hs : -9223372036854775808 ≤ s ∧ s ≤ 9223372036854775807) (w : World) (hm : n ≤ 9223372036854775807) (hsn : Seen w a n f) (hn : a = none → n = 0 ∧ cap = 0) :
    Calls Try.prog 4 #[.slice a n cap, .int .u8 off, .int .i64 s] w fun e w' => e = .returned (.bool true) ∧ Below w.heap.size w w' := by
  by_cases h : n ≤ 1048576
  · by_cases ho : off = 128 ∨ off = 192
    · by_cases h0 : 0 ≤ s
      · cases a with
        | none =>
          obtain ⟨rfl, rfl⟩ := hn rfl
          exact law_nil off s ho h0 (by omega) w
        | some x => exact law_some x n cap f off s ho h0 (by omega) w h hsn
      · clear hsn hn
        rcases ho with rfl | rfl
        all_goals
          go_enter Try.func4, Try.ntmps4
          go_wp2_with (go_at_call 10; refine (bytes10 _ _ _ _ _ _ h).mono ?_; rintro e w' ⟨rfl, rfl⟩)
          go_ret
          exact ⟨rfl, Below.refl _ _⟩
    · have e1 : (off != 128) = true := by simp; omega
      have e2 : (off != 192) = true := by simp; omega
      have e3 : (off == 128) = false := by simp; omega
      have e4 : (off == 192) = false := by simp; omega
      clear hsn hn ho
      go_enter Try.func4, Try.ntmps4
      go_wp2_with (go_at_call 10; refine (bytes10 _ _ _ _ _ _ h).mono ?_; rintro e w' ⟨rfl, rfl⟩)
      go_ret
      exact ⟨rfl, Below.refl _ _⟩
  · clear hsn hn
    go_enter Try.func4, Try.ntmps4
    go_wp2
    go_ret
    exact ⟨rfl, Below.refl _ _⟩

end Go.Proofs.Qxb6001654a.Length
