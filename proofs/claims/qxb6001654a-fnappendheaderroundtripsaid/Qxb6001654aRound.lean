/-
  FnAppendHeaderRoundTrip: the law's own walk.
-/
import Derived.Test.Qxb6001654aDecode
namespace Go.Proofs.Qxb6001654a.Round
open Go.RowKit Plain Walks

theorem bytes6 (a : Option Addr) (n cap : Nat) (off s : Int) (w : World) (h : n ≤ 1048576) :
    Calls Try.prog 6 #[.slice a n cap, .int .u8 off, .int .i64 s] w fun e w' => e = .returned (.bool true) ∧ w = w' := by
  go_enter Try.func6, Try.ntmps6
  go_wp2
  go_ret
  exact ⟨rfl, rfl⟩

theorem own_drew {w : World} {g n : Nat} {f : Nat → Int} (h : Own w g n f) : Own w.drew g n f := h

set_option maxHeartbeats 1000000 in
theorem law_some (x : Addr) (n cap : Nat) (f : Nat → Int) (off s : Int) (ho : off = 128 ∨ off = 192) (h0 : 0 ≤ s) (h1 : s < 9223372036854775808) (w : World) (hm : n ≤ 1048576) (hs : Seen w (some x) n f) :
    Calls Try.prog 3 #[.slice (some x) n cap, .int .u8 off, .int .i64 s] w fun e w' => e = .returned (.bool true) ∧ Below w.heap.size w w' := by
  have hb := hl_bd s
  have hss : (s == s) = true := by simp
  have d1 : decide ((1048576 : Int) < (n : Int)) = false := decide_eq_false (by omega)
  have d2 : decide (s < 0) = false := decide_eq_false (by omega)
  have d3 : decide ((n : Int) + (hl s : Int) < (n : Int)) = false := decide_eq_false (by omega)
  rcases ho with rfl | rfl
  all_goals
    go_enter Try.func3, Try.ntmps3
    go_wp2_with (go_at_call 6; refine (bytes6 _ _ _ _ _ _ hm).mono ?_; rintro e w' ⟨rfl, rfl⟩)
    go_wp2_with fail
    refine (clone_some x n cap f w hm hs).mono ?_
    rintro e w1 ⟨rfl, ho1, hb1⟩
    have hg1 := ho1.size
    go_wp2_with fail
    refine (clone_some _ n n f w1 hm ho1.seen).mono ?_
    rintro e w2 ⟨rfl, ho2, hb2⟩
    have ho1' := ho1.below hb2 hg1
    have hg2 := ho2.size
    go_wp2_with fail
    refine (zzAppend_any _ n f _ s (by omega) h0 h1 w2 hm (fun h => by cases h) (own_cells ho1')).mono ?_
    rintro e w3 ⟨g, c2, rfl, hle, hmx, hc, hb3⟩
    have ho3 := ho2.below hb3 hg2
    have hB : Below w.heap.size w w3 := (hb1.trans (hb2.mono (Nat.le_of_lt hg1))).trans (hb3.mono (by omega))
    unfold maxLen at hmx
    clear ho1 ho1' ho2 hb1 hb2 hb3 hs
    go_wp2
    go_loopw [9] (fun i wr => ∃ k : Nat, k ≤ n ∧ i = .int .i64 k ∧ (∀ i, i < n + hl s → wr.cell? ⟨g, i, none⟩ = w3.cell? ⟨g, i, none⟩) ∧ Own wr w1.heap.size n f ∧ Below w.heap.size w wr) (fun i _ => n - (intOf i).toNat)
    case atStart => exact ⟨0, Nat.zero_le _, rfl, fun _ _ => rfl, ho3, hB⟩
    case round =>
      clear ho3 hB
      obtain ⟨k, hk, rfl, hsame, ho3, hB⟩ := hrel
      have HX : Hid (∀ i, i < n + hl s → wr.cell? ⟨g, i, none⟩ = w3.cell? ⟨g, i, none⟩) := hsame
      have HC := show Hid _ from hc
      clear hsame hc
      by_cases hlt : k < n
      · have hb1 := ho3.cell k hlt
        have ha1 : wr.cell? ⟨g, k, none⟩ = some (.int .u8 (f k)) := by rw [HX.out k (by omega), HC.out k (by omega), both_lt _ _ _ _ hlt]
        go_wp2
        go_region
        all_goals go_wp2
        go_roundw
        case rel =>
          first
            | exact ⟨k + 1, by omega, by go_num, HX.out, own_drew ho3, hB.drew⟩
            | (repeat apply Exists.intro
               refine And.intro ?rr ?ff
               case ff => rfl
               case rr => exact ⟨k + 1, by omega, by go_num, HX.out, own_drew ho3, hB.drew⟩)
        case measure => simp [intOf]; omega
      · go_wp2_with fail
        refine (Decode.decode_any g n (c2 - n) _ s (by omega) h0 h1 wr (fun i hi => by rw [HX.out (n + i) (by omega), HC.out (n + i) (by omega), both_ge])).mono ?_
        rintro e w4 ⟨rfl, rfl⟩
        go_wp2
        go_ret
        exact ⟨rfl, hB⟩

set_option maxHeartbeats 1000000 in
theorem law_nil (off s : Int) (ho : off = 128 ∨ off = 192) (h0 : 0 ≤ s) (h1 : s < 9223372036854775808) (w : World) :
    Calls Try.prog 3 #[.slice none 0 0, .int .u8 off, .int .i64 s] w fun e w' => e = .returned (.bool true) ∧ Below w.heap.size w w' := by
  have hb := hl_bd s
  have hss : (s == s) = true := by simp
  have d2 : decide (s < 0) = false := decide_eq_false (by omega)
  have d3 : decide ((hl s : Int) < 0) = false := decide_eq_false (by omega)
  rcases ho with rfl | rfl
  all_goals
    go_enter Try.func3, Try.ntmps3
    go_wp2_with (first | (go_at_call 6; refine (bytes6 _ _ _ _ _ _ (by omega)).mono ?_; rintro e w' ⟨rfl, rfl⟩) | (go_at_call 7; refine (clone_nil _).mono ?_; rintro e w' ⟨rfl, rfl⟩))
    refine (zzAppend_any none 0 (fun _ => 0) _ s (by omega) h0 h1 w (by omega) (fun _ => rfl) (fun b h => by cases h)).mono ?_
    rintro e w3 ⟨g, c2, rfl, hle, hmx, hc, hB⟩
    unfold maxLen at hmx
    rw [Nat.zero_add] at hle ⊢
    have HC := show Hid _ from hc
    clear hc
    go_wp2
    go_loop [9] (fun i => i = .int .i64 0) (fun _ => 0)
    case atStart => exact rfl
    case round =>
      obtain rfl := hrel
      go_wp2_with fail
      refine (Decode.decode_any g 0 c2 _ s (by omega) h0 h1 w3 (fun i hi => by rw [Nat.zero_add, HC.out i (by omega)]; rfl)).mono ?_
      rintro e w4 ⟨rfl, rfl⟩
      go_wp2
      go_ret
      exact ⟨rfl, hB⟩

theorem law (a : Option Addr) (n cap : Nat) (f : Nat → Int) (off s : Int) (hoff : 0 ≤ off ∧ off ≤ 255) (hs : -9223372036854775808 ≤ s ∧ s ≤ 9223372036854775807) (w : World) (hm : n ≤ 9223372036854775807) (hsn : Seen w a n f) (hn : a = none → n = 0 ∧ cap = 0) :
    Calls Try.prog 3 #[.slice a n cap, .int .u8 off, .int .i64 s] w fun e w' => e = .returned (.bool true) ∧ Below w.heap.size w w' := by
  by_cases h : n ≤ 1048576
  · by_cases ho : off = 128 ∨ off = 192
    · by_cases h0 : 0 ≤ s
      · cases a with
        | none =>
          obtain ⟨rfl, rfl⟩ := hn rfl
          exact law_nil off s ho h0 (by omega) w
        | some x => exact law_some x n cap f off s ho h0 (by omega) w h hsn
      · clear hsn hn
        rcases ho with rfl | rfl
        all_goals
          go_enter Try.func3, Try.ntmps3
          go_wp2_with (go_at_call 6; refine (bytes6 _ _ _ _ _ _ h).mono ?_; rintro e w' ⟨rfl, rfl⟩)
          go_ret
          exact ⟨rfl, Below.refl _ _⟩
    · have e1 : (off != 128) = true := by simp; omega
      have e2 : (off != 192) = true := by simp; omega
      have e3 : (off == 128) = false := by simp; omega
      have e4 : (off == 192) = false := by simp; omega
      clear hsn hn ho
      go_enter Try.func3, Try.ntmps3
      go_wp2_with (go_at_call 6; refine (bytes6 _ _ _ _ _ _ h).mono ?_; rintro e w' ⟨rfl, rfl⟩)
      go_ret
      exact ⟨rfl, Below.refl _ _⟩
  · clear hsn hn
    go_enter Try.func3, Try.ntmps3
    go_wp2
    go_ret
    exact ⟨rfl, Below.refl _ _⟩
end Go.Proofs.Qxb6001654a.Round
