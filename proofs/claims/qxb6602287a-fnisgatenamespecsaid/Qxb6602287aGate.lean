/-
  FnIsGateNameSpec: zzGateByte, zzAllGateBytes, IsGateName by their contracts; the law's walk.
-/
import Derived.Test.Qxb6602287aRows
import Derived.WalkKit
import Derived.WalkSpells
import Derived.WalkLawsBesides
import Derived.RowKit3
import Derived.Below
import Derived.Outline
namespace Go.Proofs.Qxb6602287a.Gate
open Go.RowKit

/-- the alphabet of a gate's name -/
def Gt (n : Int) : Prop := (97 ≤ n ∧ n ≤ 122) ∨ (65 ≤ n ∧ n ≤ 90) ∨ (48 ≤ n ∧ n ≤ 57) ∨ n = 46 ∨ n = 45 ∨ n = 95

/-- the stretches within, as the tests part them -/
theorem gt_parts {n : Int} (h : Gt n) : n = 45 ∨ n = 46 ∨ n = 95 ∨ (48 ≤ n ∧ n ≤ 57) ∨ (65 ≤ n ∧ n ≤ 90) ∨ (97 ≤ n ∧ n ≤ 122) := by
  unfold Gt at h; omega
/-- and those without -/
theorem not_parts {n : Int} (h : ¬ Gt n) : n < 45 ∨ (47 ≤ n ∧ n ≤ 47) ∨ (58 ≤ n ∧ n ≤ 64) ∨ (91 ≤ n ∧ n ≤ 94) ∨ (96 ≤ n ∧ n ≤ 96) ∨ 123 ≤ n := by
  unfold Gt at h; omega

set_option maxHeartbeats 1000000 in
theorem gateByte_yes (n : Int) (w : World) (hg : Gt n) : Calls Try.prog 23 #[.int .u8 n] w fun e w' => e = .returned (.bool true) ∧ w = w' := by
  have hp := gt_parts hg
  clear hg
  rcases hp with rfl | rfl | rfl | ⟨h1, h2⟩ | ⟨h1, h2⟩ | ⟨h1, h2⟩
  all_goals
    go_enter Try.func23, Try.ntmps23
    go_wp2
    go_ret
    exact ⟨rfl, rfl⟩

set_option maxHeartbeats 1000000 in
theorem gateByte_no (n : Int) (w : World) (hg : ¬ Gt n) : Calls Try.prog 23 #[.int .u8 n] w fun e w' => e = .returned (.bool false) ∧ w = w' := by
  have hp := not_parts hg
  have b1 : (n == 46) = false := by simp [Gt] at hg ⊢; omega
  have b2 : (n == 45) = false := by simp [Gt] at hg ⊢; omega
  have b3 : (n == 95) = false := by simp [Gt] at hg ⊢; omega
  clear hg
  rcases hp with h | h | h | h | h | h
  all_goals
    go_enter Try.func23, Try.ntmps23
    go_wp2
    go_ret
    exact ⟨rfl, rfl⟩

/-- every byte is of the alphabet -/
def All (s : ByteArray) : Prop := ∀ i (h : i < s.size), Gt ((s[i]'h).toNat : Int)

set_option maxHeartbeats 400000 in
theorem all_yes (s : ByteArray) (w : World) (hm : s.size ≤ 1048576) (hA : All s) : Calls Try.prog 11 #[.string s] w fun e w' => e = .returned (.bool true) ∧ w = w' := by
  go_enter Try.func11, Try.ntmps11
  go_wp2
  go_loop [3] (fun i => ∃ k : Nat, k ≤ s.size ∧ i = .int .i64 k) (fun i => s.size - (intOf i).toNat)
  case atStart => exact ⟨0, Nat.zero_le _, rfl⟩
  case round =>
    obtain ⟨k, hk, rfl⟩ := hrel
    by_cases hlt : k < s.size
    · go_wp2_with (go_at_call 23; refine (gateByte_yes _ _ (hA k hlt)).mono ?_; rintro e w' ⟨rfl, rfl⟩)
      go_round
      case rel => exact ⟨k + 1, by omega, by go_num⟩
      case measure => simp [intOf]; omega
    · go_wp2
      go_ret
      exact ⟨rfl, rfl⟩

set_option maxHeartbeats 400000 in
theorem all_no (s : ByteArray) (w : World) (hm : s.size ≤ 1048576) (hA : ¬ All s) : Calls Try.prog 11 #[.string s] w fun e w' => e = .returned (.bool false) ∧ w = w' := by
  go_enter Try.func11, Try.ntmps11
  go_wp2
  go_loop [3] (fun i => ∃ k : Nat, k ≤ s.size ∧ i = .int .i64 k ∧ ∀ j (h : j < s.size), j < k → Gt ((s[j]'h).toNat : Int)) (fun i => s.size - (intOf i).toNat)
  case atStart => exact ⟨0, Nat.zero_le _, rfl, fun j h h' => absurd h' (Nat.not_lt_zero _)⟩
  case round =>
    obtain ⟨k, hk, rfl, hpre⟩ := hrel
    by_cases hlt : k < s.size
    · by_cases hg : Gt ((s[k]'hlt).toNat : Int)
      · have HP : Hid (∀ j (h : j < s.size), j < k + 1 → Gt ((s[j]'h).toNat : Int)) := fun j h h' => by
          by_cases e : j = k
          · subst e; exact hg
          · exact hpre j h (by omega)
        clear hpre
        go_wp2_with (go_at_call 23; refine (gateByte_yes _ _ hg).mono ?_; rintro e w' ⟨rfl, rfl⟩)
        go_round
        case rel => exact ⟨k + 1, by omega, by go_num, HP.out⟩
        case measure => simp [intOf]; omega
      · clear hpre
        go_wp2_with (go_at_call 23; refine (gateByte_no _ _ hg).mono ?_; rintro e w' ⟨rfl, rfl⟩)
        go_ret
        exact ⟨rfl, rfl⟩
    · exact absurd (fun j h => hpre j h (by omega)) hA

/-! ### IsGateName -/
theorem frozen_iter (w : World) (s : ByteArray) (pos : Nat) (a : Addr) : (w.iter s pos).frozen? a = w.frozen? a := by
  by_cases h : a.block = w.heap.size
  · have e1 : (w.iter s pos).heap[a.block]? = some (.stringIter s pos) := by rw [h]; exact World.iter_heap w s pos
    have e2 : w.heap[a.block]? = none := by rw [h]; simp
    simp [World.frozen?, e1, e2]
  · exact World.frozen?_alloc_old _ _ _ h
theorem grown_iter (w : World) (s : ByteArray) (pos : Nat) : Grown w (w.iter s pos) :=
  ⟨World.keptBut_alloc w _ _, frozen_iter w s pos, by show w.heap.size ≤ (w.heap.push _).size; simp⟩

theorem empty_iff (s : ByteArray) : s.toList.isEmpty = decide (s.size = 0) := by
  rw [ByteArray.toList_eq]
  obtain ⟨⟨l⟩⟩ := s
  cases l <;> simp [ByteArray.size]

set_option maxHeartbeats 400000 in
theorem name_empty (s : ByteArray) (w : World) (h0 : s.size = 0) : Calls Try.prog 12 #[.string s] w fun e w' => e = .returned (.bool false) ∧ Grown w w' := by
  have hs : s.toList.isEmpty = true := by rw [empty_iff, h0]; rfl
  go_enter Try.func12, Try.ntmps12
  go_wp2
  go_ret
  exact ⟨rfl, Grown.refl _⟩

/-- what 'next' gives at pos, and where it goes on: the rune is of the alphabet just where the byte is, and then it is that byte, one place wide -/
theorem step (w : World) (s : ByteArray) (pos : Nat) (h : pos < s.size) :
    ∃ (c : Int) (p : Nat), (∀ ty, (Instr.next (.pointer (some ⟨w.heap.size, 0, none⟩)) true ty).run Try.prog (w.iter s pos) = .ok (.tuple #[.bool true, .int .i64 pos, .int .i32 c]) (w.iter s p)) ∧
      (Gt ((s[pos]'h).toNat : Int) → Gt c ∧ p = pos + 1) ∧ (¬ Gt ((s[pos]'h).toNat : Int) → ¬ Gt c) := by
  by_cases ha : (s[pos]'h).toNat < 128
  · exact ⟨_, _, fun ty => run_next_ascii w s pos ty h ha, fun g => ⟨g, rfl⟩, fun g => g⟩
  · have hh := decode_high s pos h (by omega)
    refine ⟨_, _, fun ty => run_next_any w s pos ty h, fun g => ?_, fun _ g => ?_⟩
    · unfold Gt at g; omega
    · unfold Gt at g; omega

set_option maxHeartbeats 1000000 in
theorem name_yes (s : ByteArray) (w : World) (h0 : 0 < s.size) (hA : All s) : Calls Try.prog 12 #[.string s] w fun e w' => e = .returned (.bool true) ∧ Grown w w' := by
  have hs : s.toList.isEmpty = false := by rw [empty_iff]; exact decide_eq_false (by omega)
  go_enter Try.func12, Try.ntmps12
  go_wp2
  go_loopw [4] (fun _ wr => ∃ pos : Nat, wr = w.iter s pos) (fun _ wr => s.size - wr.iterPos w.heap.size)
  case atStart => exact ⟨0, rfl⟩
  case round =>
    obtain ⟨pos, rfl⟩ := hrel
    by_cases hlt : pos < s.size
    · obtain ⟨c, p, hnx, h1, h2⟩ := step w s pos hlt
      obtain ⟨hc, hp⟩ := h1 (hA pos hlt)
      have hq := gt_parts hc
      clear h1 h2 hc
      have HP : Hid (p = pos + 1) := hp
      clear hp
      rcases hq with rfl | rfl | rfl | ⟨h1, h2⟩ | ⟨h1, h2⟩ | ⟨h1, h2⟩
      all_goals
        go_wp2
        go_roundw
        case rel => exact ⟨p, rfl⟩
        case measure => have := HP.out; simp; omega
    · have hnx : ∀ ty, (Instr.next (.pointer (some ⟨w.heap.size, 0, none⟩)) true ty).run Try.prog (w.iter s pos) = _ := fun ty => run_next_end w s pos ty hlt
      go_wp2
      go_ret
      exact ⟨rfl, grown_iter w s pos⟩

set_option maxHeartbeats 1000000 in
theorem name_no (s : ByteArray) (w : World) (h0 : 0 < s.size) (hA : ¬ All s) : Calls Try.prog 12 #[.string s] w fun e w' => e = .returned (.bool false) ∧ Grown w w' := by
  have hs : s.toList.isEmpty = false := by rw [empty_iff]; exact decide_eq_false (by omega)
  go_enter Try.func12, Try.ntmps12
  go_wp2
  go_loopw [4] (fun _ wr => ∃ pos : Nat, wr = w.iter s pos ∧ ∀ j (h : j < s.size), j < pos → Gt ((s[j]'h).toNat : Int)) (fun _ wr => s.size - wr.iterPos w.heap.size)
  case atStart => exact ⟨0, rfl, fun j h h' => absurd h' (Nat.not_lt_zero _)⟩
  case round =>
    obtain ⟨pos, rfl, hpre⟩ := hrel
    by_cases hlt : pos < s.size
    · obtain ⟨c, p, hnx, h1, h2⟩ := step w s pos hlt
      by_cases hg : Gt ((s[pos]'hlt).toNat : Int)
      · obtain ⟨hc, hp⟩ := h1 hg
        have HQ : Hid (∀ j (h : j < s.size), j < p → Gt ((s[j]'h).toNat : Int)) := fun j h h' => by
          by_cases e : j = pos
          · subst e; exact hg
          · exact hpre j h (by omega)
        have hq := gt_parts hc
        clear h1 h2 hc hpre hg
        have HP : Hid (p = pos + 1) := hp
        clear hp
        rcases hq with rfl | rfl | rfl | ⟨h1, h2⟩ | ⟨h1, h2⟩ | ⟨h1, h2⟩
        all_goals
          go_wp2
          go_roundw
          case rel => exact ⟨p, rfl, HQ.out⟩
          case measure => have := HP.out; simp; omega
      · have hc := h2 hg
        have hq := not_parts hc
        have b1 : (c == 46) = false := by simp [Gt] at hc ⊢; omega
        have b2 : (c == 45) = false := by simp [Gt] at hc ⊢; omega
        have b3 : (c == 95) = false := by simp [Gt] at hc ⊢; omega
        clear h1 h2 hc hpre hg
        rcases hq with h | h | h | h | h | h
        all_goals
          try (have d1 : decide (c ≤ 57) = false := decide_eq_false (by omega))
          try (have d2 : decide (c ≤ 90) = false := decide_eq_false (by omega))
          try (have d3 : decide (c ≤ 122) = false := decide_eq_false (by omega))
          go_wp2
          go_ret
          exact ⟨rfl, grown_iter w s p⟩
    · exact absurd (fun j h => hpre j h (by omega)) hA

theorem bytes_ok (s : ByteArray) (w : World) (h : s.size ≤ 1048576) : Calls Try.prog 10 #[.string s] w fun e w' => e = .returned (.bool true) ∧ w = w' := by
  go_enter Try.func10, Try.ntmps10
  go_wp2
  go_ret
  exact ⟨rfl, rfl⟩

set_option maxHeartbeats 400000 in
theorem law (s : ByteArray) (hm : s.size ≤ maxLen) (w : World) : Calls Try.prog 3 #[.string s] w fun e w' => e = .returned (.bool true) ∧ Grown w w' := by
  unfold maxLen at hm
  by_cases hs : s.size ≤ 1048576
  · by_cases h0 : s.size = 0
    · have hz : (s.size : Int) = 0 := by omega
      go_enter Try.func3, Try.ntmps3
      go_wp2_with (first | (go_at_call 10; refine (bytes_ok _ _ hs).mono ?_; rintro e w' ⟨rfl, rfl⟩) | (go_at_call 12; refine (name_empty s _ h0).mono ?_; rintro e w' ⟨rfl, hg⟩))
      go_ret
      exact ⟨rfl, ‹_›⟩
    · have h1 : 0 < s.size := by omega
      by_cases hA : All s
      · go_enter Try.func3, Try.ntmps3
        go_wp2_with (first | (go_at_call 10; refine (bytes_ok _ _ hs).mono ?_; rintro e w' ⟨rfl, rfl⟩) | (go_at_call 11; refine (all_yes s _ hs hA).mono ?_; rintro e w' ⟨rfl, rfl⟩) | (go_at_call 12; refine (name_yes s _ h1 hA).mono ?_; rintro e w' ⟨rfl, hg⟩))
        go_ret
        exact ⟨rfl, ‹_›⟩
      · go_enter Try.func3, Try.ntmps3
        go_wp2_with (first | (go_at_call 10; refine (bytes_ok _ _ hs).mono ?_; rintro e w' ⟨rfl, rfl⟩) | (go_at_call 11; refine (all_no s _ hs hA).mono ?_; rintro e w' ⟨rfl, rfl⟩) | (go_at_call 12; refine (name_no s _ h1 hA).mono ?_; rintro e w' ⟨rfl, hg⟩))
        go_ret
        exact ⟨rfl, ‹_›⟩
  · go_enter Try.func3, Try.ntmps3
    go_wp2
    go_ret
    exact ⟨rfl, Grown.refl _⟩
end Go.Proofs.Qxb6602287a.Gate
