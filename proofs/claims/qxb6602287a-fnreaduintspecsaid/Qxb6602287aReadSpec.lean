/-
  FnReadUintSpec: the law's own walk.
-/
import Derived.Test.Qxb6602287aOwned
namespace Go.Proofs.Qxb6602287a.ReadSpec
open Go.RowKit Plain Walks Owned

theorem sl_ne (x : Addr) (l c : Nat) (w : World) : (binOp .neq 24 (.slice (some x) l c) (.slice none 0 0)).run Try.prog w = .ok (.bool true) w := ne_nil (some x) l c w
theorem sl_nil (w : World) : (binOp .neq 24 (.slice none 0 0) (.slice none 0 0)).run Try.prog w = .ok (.bool false) w := ne_nil none 0 0 w

theorem tail_nil (w : World) : Calls Try.prog 16 #[.slice none 0 0] w fun e w' => e = .returned (.int .u64 0) ∧ w = w' := by
  refine (tailValue_any none 0 0 (fun _ => 0) (fun _ => by simp) w (by omega) (Or.inl rfl)).mono fun e w' h => ⟨?_, h.2.symm⟩
  rw [h.1]
  rfl

theorem law_nil (w : World) : Calls Try.prog 5 #[.slice none 0 0] w fun e w' => e = .returned (.bool true) ∧ Below w.heap.size w w' := by
  have hnn := sl_nil
  go_enter Try.func5, Try.ntmps5
  go_wp2_with (first | (go_at_call 14; refine (bytes14 _ _ _ _ (by omega)).mono ?_; rintro e w' ⟨rfl, rfl⟩) | (go_at_call 15; refine (zzRead_nil _).mono ?_; rintro e w' ⟨rfl, rfl⟩) | (go_at_call 16; refine (tail_nil _).mono ?_; rintro e w' ⟨rfl, rfl⟩))
  go_ret
  exact ⟨rfl, Below.refl _ _⟩

set_option maxHeartbeats 400000 in
theorem law_some (x : Addr) (n cap : Nat) (f : Nat → Int) (hf : Byt f) (w : World) (hm : n ≤ 1048576) (hs : Seen w (some x) n f) :
    Calls Try.prog 5 #[.slice (some x) n cap] w fun e w' => e = .returned (.bool true) ∧ Below w.heap.size w w' := by
  have hmk := make_bytes n hm
  have hne := sl_ne
  obtain ⟨w1, hc1, ho1, hb1⟩ := copy_in w (some x) n cap f hs
  have he : (rd f n == tv f n 8) = true := by rw [rd_tv hf n]; simp
  go_enter Try.func5, Try.ntmps5
  go_wp2_with (go_at_call 14; refine (bytes14 _ _ _ _ hm).mono ?_; rintro e w' ⟨rfl, rfl⟩)
  go_wp2_with fail
  refine (zzRead_own _ n f hf w1 hm ho1).mono ?_
  rintro e w2 ⟨rfl, rfl⟩
  go_wp2_with fail
  refine (tailValue_any _ n n f hf w1 hm ho1.seen).mono ?_
  rintro e w2 ⟨rfl, rfl⟩
  go_wp2
  go_ret
  exact ⟨rfl, hb1⟩

theorem law (a : Option Addr) (n cap : Nat) (f : Nat → Int) (hf : Byt f) (w : World) (hm : n ≤ 9223372036854775807) (hs : Seen w a n f) (hn : a = none → n = 0 ∧ cap = 0) :
    Calls Try.prog 5 #[.slice a n cap] w fun e w' => e = .returned (.bool true) ∧ Below w.heap.size w w' := by
  by_cases h : n ≤ 1048576
  · cases a with
    | none =>
      obtain ⟨rfl, rfl⟩ := hn rfl
      exact law_nil w
    | some x => exact law_some x n cap f hf w h hs
  · clear hs hn
    go_enter Try.func5, Try.ntmps5
    go_wp2
    go_ret
    exact ⟨rfl, Below.refl _ _⟩
end Go.Proofs.Qxb6602287a.ReadSpec
