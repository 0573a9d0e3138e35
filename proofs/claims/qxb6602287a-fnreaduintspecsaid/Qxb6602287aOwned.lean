/-
  zzCloneBytes and ZZputUint once more, at a slice that is not nil and at nil: in the forms that the laws take.
-/
import Derived.Test.Qxb6602287aWalks
namespace Go.Proofs.Qxb6602287a.Owned
open Go.RowKit Plain Walks

theorem clone_some (x : Addr) (len cap : Nat) (f : Nat → Int) (w : World) (hm : len ≤ 1048576) (h : Seen w (some x) len f) :
    Calls Try.prog 19 #[.slice (some x) len cap] w fun e w' => e = .returned (.slice (some ⟨w.heap.size, 0, none⟩) len len) ∧ Own w' w.heap.size len f ∧ Below w.heap.size w w' := by
  rcases h with rfl | ⟨b, off, hx, hc⟩
  · exact clone_empty x cap f w
  · obtain rfl := Option.some.inj hx
    exact clone_row b off len cap f w hm hc

theorem zzPut_own (V : Int) (hV : 0 ≤ V ∧ V < 18446744073709551616) (B g len : Nat) (f : Nat → Int) (w : World) (hm : len ≤ 1048576) (hB : B ≤ g) (ho : Own w g len f) :
    Calls Try.prog 20 #[.slice (some ⟨g, 0, none⟩) len len, .int .u64 V] w fun e w' => e = .returned (.tuple #[]) ∧ Own w' g len (pb V len) ∧ Below B w w' := by
  refine (zzPut_any V hV B g len _ f w hm hB (Or.inr ⟨rfl, ho⟩)).mono ?_
  rintro e w' ⟨rfl, hb, h⟩
  rcases h with ⟨h, _⟩ | ⟨_, h⟩
  · cases h
  · exact ⟨rfl, h, hb⟩

theorem zzPut_nil (V : Int) (w : World) : Calls Try.prog 20 #[.slice none 0 0, .int .u64 V] w fun e w' => e = .returned (.tuple #[]) ∧ w = w' := by
  go_enter Try.func20, Try.ntmps20
  go_wp2_with (go_at_call 26; refine (put_none V none 0 _).mono ?_; rintro e w' ⟨rfl, rfl⟩)
  go_end0
  exact ⟨rfl, rfl⟩

theorem clone_nil' (w : World) : Calls Try.prog 19 #[.slice none 0 0] w fun e w' => e = .returned (.slice none 0 0) ∧ w = w' :=
  (clone_nil w).mono fun _ _ h => ⟨h.1, h.2.symm⟩

theorem zzRead_own (g n : Nat) (f : Nat → Int) (hf : Byt f) (w : World) (hm : n ≤ 1048576) (h : Own w g n f) :
    Calls Try.prog 15 #[.slice (some ⟨g, 0, none⟩) n n] w fun e w' => e = .returned (.int .u64 (rd f n)) ∧ w = w' :=
  (zzReadUint_any _ n n f hf w hm h.seen).mono fun _ _ h => ⟨h.1, h.2.symm⟩

theorem zzRead_nil (w : World) : Calls Try.prog 15 #[.slice none 0 0] w fun e w' => e = .returned (.int .u64 0) ∧ w = w' :=
  (zzReadUint_any none 0 0 (fun _ => 0) (fun _ => by simp) w (by omega) (Or.inl rfl)).mono fun _ _ h => ⟨h.1, h.2.symm⟩

theorem bytes18 (a : Option Addr) (n cap : Nat) (v : Int) (w : World) (h : n ≤ 1048576) :
    Calls Try.prog 18 #[.slice a n cap, .int .u64 v] w fun e w' => e = .returned (.bool true) ∧ w = w' := by
  go_enter Try.func18, Try.ntmps18
  go_wp2
  go_ret
  exact ⟨rfl, rfl⟩
theorem bytes21 (a : Option Addr) (n cap : Nat) (v : Int) (w : World) (h : n ≤ 1048576) :
    Calls Try.prog 21 #[.slice a n cap, .int .u64 v] w fun e w' => e = .returned (.bool true) ∧ w = w' := by
  go_enter Try.func21, Try.ntmps21
  go_wp2
  go_ret
  exact ⟨rfl, rfl⟩
theorem bytes22 (a : Option Addr) (n cap : Nat) (w : World) (h : n ≤ 1048576) :
    Calls Try.prog 22 #[.slice a n cap] w fun e w' => e = .returned (.bool true) ∧ w = w' := by
  go_enter Try.func22, Try.ntmps22
  go_wp2
  go_ret
  exact ⟨rfl, rfl⟩
theorem bytes14 (a : Option Addr) (n cap : Nat) (w : World) (h : n ≤ 1048576) :
    Calls Try.prog 14 #[.slice a n cap] w fun e w' => e = .returned (.bool true) ∧ w = w' := by
  go_enter Try.func14, Try.ntmps14
  go_wp2
  go_ret
  exact ⟨rfl, rfl⟩
end Go.Proofs.Qxb6602287a.Owned
