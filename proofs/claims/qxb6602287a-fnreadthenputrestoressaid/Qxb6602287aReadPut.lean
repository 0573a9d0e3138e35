/-
  FnReadThenPutRestores: the law's own walk.
-/
import Derived.Test.Qxb6602287aOwned
namespace Go.Proofs.Qxb6602287a.ReadPut
open Go.RowKit Plain Walks Owned

theorem sl_ne (x : Addr) (l c : Nat) (w : World) : (binOp .neq 24 (.slice (some x) l c) (.slice none 0 0)).run Try.prog w = .ok (.bool true) w := ne_nil (some x) l c w
theorem sl_nil (w : World) : (binOp .neq 24 (.slice none 0 0) (.slice none 0 0)).run Try.prog w = .ok (.bool false) w := ne_nil none 0 0 w
theorem own_drew {w : World} {g n : Nat} {f : Nat → Int} (h : Own w g n f) : Own w.drew g n f := h

theorem law_nil (w : World) : Calls Try.prog 9 #[.slice none 0 0] w fun e w' => e = .returned (.bool true) ∧ Below w.heap.size w w' := by
  have hnn := sl_nil
  go_enter Try.func9, Try.ntmps9
  go_wp2_with (first | (go_at_call 22; refine (bytes22 _ _ _ _ (by omega)).mono ?_; rintro e w' ⟨rfl, rfl⟩) | (go_at_call 19; refine (clone_nil' _).mono ?_; rintro e w' ⟨rfl, rfl⟩) | (go_at_call 20; refine (zzPut_nil _ _).mono ?_; rintro e w' ⟨rfl, rfl⟩) | (go_at_call 15; refine (zzRead_nil _).mono ?_; rintro e w' ⟨rfl, rfl⟩))
  go_loop [6, 7] (fun i _ => i = .int .i64 0) (fun _ _ => 0)
  case atStart => exact rfl
  case round =>
    obtain rfl := hrel
    go_wp2
    go_ret
    exact ⟨rfl, Below.refl _ _⟩

set_option maxHeartbeats 400000 in
theorem law_some (x : Addr) (n cap : Nat) (f : Nat → Int) (hf : Byt f) (w : World) (hm : n ≤ 1048576) (hs : Seen w (some x) n f) :
    Calls Try.prog 9 #[.slice (some x) n cap] w fun e w' => e = .returned (.bool true) ∧ Below w.heap.size w w' := by
  have hmk := make_bytes n hm
  have hne := sl_ne
  obtain ⟨w1, hc1, ho1, hb1⟩ := copy_in w (some x) n cap f hs
  have hg1 := ho1.size
  go_enter Try.func9, Try.ntmps9
  go_wp2_with (go_at_call 22; refine (bytes22 _ _ _ _ hm).mono ?_; rintro e w' ⟨rfl, rfl⟩)
  go_wp2_with fail
  refine (clone_some _ n n f w1 hm ho1.seen).mono ?_
  rintro e w2 ⟨rfl, ho2, hb2⟩
  have ho1' := ho1.below hb2 hg1
  go_wp2_with fail
  refine (zzRead_own _ n f hf w2 hm ho1').mono ?_
  rintro e w2' ⟨rfl, rfl⟩
  go_wp2_with fail
  refine (zzPut_own (rd f n) (rd_bd f n) w1.heap.size w1.heap.size n f w2 hm (Nat.le_refl _) ho2).mono ?_
  rintro e w3 ⟨rfl, hc3, hb3⟩
  have ho3 := ho1'.below hb3 hg1
  have hB : Below w.heap.size w w3 := (hb1.trans (hb2.mono (Nat.le_of_lt hg1))).trans (hb3.mono (Nat.le_of_lt hg1))
  clear ho1 ho1' ho2 hb1 hb2 hb3 hc1 hs
  go_wp2
  go_loopw [6, 7] (fun i _ wr => ∃ k : Nat, k ≤ n ∧ i = .int .i64 k ∧ Own wr w.heap.size n f ∧ Own wr w1.heap.size n (pb (rd f n) n) ∧ Below w.heap.size w wr) (fun i _ _ => n - (intOf i).toNat)
  case atStart => exact ⟨0, Nat.zero_le _, rfl, ho3, hc3, hB⟩
  case round =>
    clear ho3 hc3 hB
    obtain ⟨k, hk, rfl, ho3, hc3, hB⟩ := hrel
    by_cases hlt : k < n
    · have ha := ho3.cell k hlt
      have hc := hc3.cell k hlt
      by_cases h8 : (n : Int) - 1 - (k : Int) < 8
      · have he : (pb (rd f n) n k != f k) = false := by rw [pb_rd hf n k hlt, if_pos (by omega)]; simp
        go_wp2
        go_region
        all_goals go_wp2
        go_roundw
        case rel =>
          first
            | exact ⟨k + 1, by omega, by go_num, own_drew ho3, own_drew hc3, hB.drew⟩
            | (repeat apply Exists.intro
               refine And.intro ?rr ?ff
               case ff => rfl
               case rr => exact ⟨k + 1, by omega, by go_num, own_drew ho3, own_drew hc3, hB.drew⟩)
        case measure => simp [intOf]; omega
      · have he : (pb (rd f n) n k != 0) = false := by rw [pb_rd hf n k hlt, if_neg (by omega)]; rfl
        go_wp2
        go_roundw
        case rel => exact ⟨k + 1, by omega, by go_num, ho3, hc3, hB⟩
        case measure => simp [intOf]; omega
    · go_wp2
      go_ret
      exact ⟨rfl, hB⟩

theorem law (a : Option Addr) (n cap : Nat) (f : Nat → Int) (hf : Byt f) (w : World) (hm : n ≤ 9223372036854775807) (hs : Seen w a n f) (hn : a = none → n = 0 ∧ cap = 0) :
    Calls Try.prog 9 #[.slice a n cap] w fun e w' => e = .returned (.bool true) ∧ Below w.heap.size w w' := by
  by_cases h : n ≤ 1048576
  · cases a with
    | none =>
      obtain ⟨rfl, rfl⟩ := hn rfl
      exact law_nil w
    | some x => exact law_some x n cap f hf w h hs
  · clear hs hn
    go_enter Try.func9, Try.ntmps9
    go_wp2
    go_ret
    exact ⟨rfl, Below.refl _ _⟩
end Go.Proofs.Qxb6602287a.ReadPut
