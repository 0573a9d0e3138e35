/-
  FnReadUintOrder: the law's own walk where both slices are of one length.
-/
import Derived.Test.Qxb6602287aWalks
namespace Go.Proofs.Qxb6602287a.Order
open Go.RowKit Plain Walks

theorem sl_ne (x : Addr) (l c : Nat) (w : World) : (binOp .neq 24 (.slice (some x) l c) (.slice none 0 0)).run Try.prog w = .ok (.bool true) w := ne_nil (some x) l c w

theorem own_drew {w : World} {g n : Nat} {f : Nat → Int} (h : Own w g n f) : Own w.drew g n f := h

/-- the m last bytes count, m the lesser of n and 8 -/
theorem rd_low {f : Nat → Int} (hf : Byt f) (n lo : Nat) (h : (8 < n ∧ lo + 8 = n) ∨ (n ≤ 8 ∧ lo = 0)) : rd f n = val f lo (n - lo) := by
  have := rd_tail hf n (n - lo) (by omega) (by omega)
  rw [this]; congr 1; omega

theorem rd_less {f g : Nat → Int} (hf : Byt f) (hg : Byt g) (n lo k : Nat) (h : (8 < n ∧ lo + 8 = n) ∨ (n ≤ 8 ∧ lo = 0)) (hk : lo ≤ k) (hkn : k < n) (hs : ∀ t, lo ≤ t → t < k → f t = g t) (hlt : f k < g k) : rd f n < rd g n := by
  rw [rd_low hf n lo h, rd_low hg n lo h]
  refine val_first hf hg lo (k - lo) (n - lo) (by omega) (fun t ht => hs _ (by omega) (by omega)) ?_
  rw [show lo + (k - lo) = k by omega]; exact hlt

theorem rd_same {f g : Nat → Int} (hf : Byt f) (hg : Byt g) (n lo : Nat) (h : (8 < n ∧ lo + 8 = n) ∨ (n ≤ 8 ∧ lo = 0)) (hs : ∀ t, lo ≤ t → t < n → f t = g t) : rd f n = rd g n := by
  rw [rd_low hf n lo h, rd_low hg n lo h]
  exact val_same lo (n - lo) (fun t ht => hs _ (by omega) (by omega))

theorem bytes_ok (x y : Option Addr) (n m cap0 cap1 : Nat) (w : World) (h : n + m ≤ 1048576) :
    Calls Try.prog 17 #[.slice x n cap0, .slice y m cap1] w fun e w' => e = .returned (.bool true) ∧ w = w' := by
  go_enter Try.func17, Try.ntmps17
  go_wp2
  go_ret
  exact ⟨rfl, rfl⟩

theorem both_some (x y : Addr) (n cap0 cap1 : Nat) (f g : Nat → Int) (hf : Byt f) (hg : Byt g) (w : World) (hm : n ≤ 524288)
    (hs0 : Seen w (some x) n f) (hs1 : Seen w (some y) n g) :
    Calls Try.prog 6 #[.slice (some x) n cap0, .slice (some y) n cap1] w fun e w' => e = .returned (.bool true) ∧ Below w.heap.size w w' := by
  have hmk := make_bytes n (by omega)
  have hne := sl_ne
  obtain ⟨w1, hc1, ho1, hb1⟩ := copy_in w (some x) n cap0 f hs0
  obtain ⟨w2, hc2, ho2, hb2⟩ := copy_in w1 (some y) n cap1 g (hs1.below hb1)
  have ho1' := ho1.below hb2 ho1.size
  have hsz := ho1.size
  have hB : Below w.heap.size w w2 := hb1.trans (hb2.mono (Nat.le_of_lt hsz))
  obtain ⟨lo, hlo⟩ : ∃ lo : Nat, (8 < n ∧ lo + 8 = n) ∨ (n ≤ 8 ∧ lo = 0) := ⟨n - 8, by omega⟩
  have HL : Hid ((8 < n ∧ lo + 8 = n) ∨ (n ≤ 8 ∧ lo = 0)) := hlo
  by_cases h8 : (8 : Int) < (n : Int)
  all_goals
    go_enter Try.func6, Try.ntmps6
    go_wp2_with (go_at_call 17; refine (bytes_ok _ _ _ _ _ _ _ (by omega)).mono ?_; rintro e w' ⟨rfl, rfl⟩)
    go_loopw [8, 9] (fun c i wr => c = .int .i64 0 ∧ ∃ k : Nat, k ≤ n ∧ lo ≤ k ∧ i = .int .i64 k ∧ (∀ t, lo ≤ t → t < k → f t = g t) ∧ Own wr w.heap.size n f ∧ Own wr w1.heap.size n g ∧ Below w.heap.size w wr) (fun _ i _ => n - (intOf i).toNat)
    case atStart => exact ⟨rfl, lo, by omega, Nat.le_refl _, by go_num, fun t h1 h2 => absurd h2 (by omega), ho1', ho2, hB⟩
    case round =>
      obtain ⟨rfl, k, hk, hlk, rfl, hsame, hof, hog, hbel⟩ := hrel
      clear hlo
      by_cases hlt : k < n
      · have hcf := hof.cell k hlt
        have hcg := hog.cell k hlt
        by_cases h1 : f k < g k
        · have hR := rd_less hf hg n lo k HL.out hlk hlt hsame h1
          clear hsame
          go_wp2
          go_region
          all_goals go_wp2
          go_region
          all_goals go_wp2_with fail
          refine (zzReadUint_any _ n n f hf _ (by omega) (own_drew (own_drew hof)).seen).mono ?_
          rintro e w' ⟨rfl, rfl⟩
          go_wp2_with fail
          refine (zzReadUint_any _ n n g hg _ (by omega) (own_drew (own_drew hog)).seen).mono ?_
          rintro e w' ⟨rfl, rfl⟩
          go_wp2
          go_ret
          exact ⟨by simp, hbel.drew.drew⟩
        · by_cases h2 : g k < f k
          · have hR := rd_less hg hf n lo k HL.out hlk hlt (fun t a b => (hsame t a b).symm) h2
            clear hsame
            go_wp2
            go_region
            all_goals go_wp2
            go_region
            all_goals go_wp2_with fail
            refine (zzReadUint_any _ n n f hf _ (by omega) (own_drew (own_drew hof)).seen).mono ?_
            rintro e w' ⟨rfl, rfl⟩
            go_wp2_with fail
            refine (zzReadUint_any _ n n g hg _ (by omega) (own_drew (own_drew hog)).seen).mono ?_
            rintro e w' ⟨rfl, rfl⟩
            go_wp2
            go_ret
            exact ⟨by simp, hbel.drew.drew⟩
          · have h3 : f k = g k := by omega
            have HS : Hid (∀ t, lo ≤ t → t < k + 1 → f t = g t) := fun t a b => by
              by_cases e : t = k
              · subst e; exact h3
              · exact hsame t a (by omega)
            clear h3 hsame
            go_wp2
            go_region
            all_goals go_wp2
            go_roundw
            case rel =>
              first
                | exact ⟨rfl, k + 1, by omega, by omega, by go_num, HS.out, own_drew hof, own_drew hog, hbel.drew⟩
                | (repeat apply Exists.intro
                   refine And.intro ?rr ?ff
                   case ff => rfl
                   case rr => exact ⟨rfl, k + 1, by omega, by omega, by go_num, HS.out, own_drew hof, own_drew hog, hbel.drew⟩)
            case measure => simp [intOf]; omega
      · have hR := rd_same hf hg n lo HL.out (fun t a b => hsame t a (by omega))
        have HR : Hid (rd f n = rd g n) := hR
        clear hsame hR
        go_wp2_with fail
        refine (zzReadUint_any _ n n f hf _ (by omega) hof.seen).mono ?_
        rintro e w' ⟨rfl, rfl⟩
        go_wp2_with fail
        refine (zzReadUint_any _ n n g hg _ (by omega) hog.seen).mono ?_
        rintro e w' ⟨rfl, rfl⟩
        go_wp2
        go_ret
        exact ⟨by simp [HR.out], hbel⟩
theorem sl_nil (w : World) : (binOp .neq 24 (.slice none 0 0) (.slice none 0 0)).run Try.prog w = .ok (.bool false) w := ne_nil none 0 0 w

theorem make_zero (w : World) : (Instr.makeSlice 24 (.int .i64 0) (.int .i64 0)).run Try.prog w = .ok (.slice (some ⟨w.heap.size, 0, none⟩) 0 0) (w.alloc (.cells (madeCells #[.int .u8 0] 0) 5)) := make_bytes 0 (by omega) w

/-- 'copy' of nothing -/
theorem copy_zero (d a : Option Addr) (cap : Nat) (ty : TypeId) (w : World) : (Builtin.copy_ #[24, 24] ty #[.slice d 0 0, .slice a 0 cap]).run Try.prog w = .ok (.int .i64 0) w :=
  run_copy_none (P := Try.prog) w 24 24 ty 5 d a 0 0 0 cap Try.underlying24 size5 rfl

/-- one of the two is nil: neither has an element -/
theorem one_nil (a0 a1 : Option Addr) (cap0 cap1 : Nat) (w : World) (h0 : a0 = none → cap0 = 0) (h1 : a1 = none → cap1 = 0) (h : a0 = none ∨ a1 = none) :
    Calls Try.prog 6 #[.slice a0 0 cap0, .slice a1 0 cap1] w fun e w' => e = .returned (.bool true) ∧ Below w.heap.size w w' := by
  have hmk := make_zero
  have hne := sl_ne
  have hnn := sl_nil
  have hcp := copy_zero
  cases a0 with
  | none =>
    obtain rfl := h0 rfl
    cases a1 with
    | none =>
      obtain rfl := h1 rfl
      clear h h0 h1
      go_enter Try.func6, Try.ntmps6
      go_wp2_with (go_at_call 17; refine (bytes_ok _ _ _ _ _ _ _ (by omega)).mono ?_; rintro e w' ⟨rfl, rfl⟩)
      go_loopw [8, 9] (fun c i wr => c = .int .i64 0 ∧ i = .int .i64 0 ∧ wr = w) (fun _ i _ => 0)
      case atStart => exact ⟨rfl, rfl, rfl⟩
      case round =>
        obtain ⟨rfl, rfl, rfl⟩ := hrel
        go_wp2_with fail
        refine (zzReadUint_any _ 0 0 (fun _ => 0) (fun _ => by simp) _ (by omega) (Or.inl rfl)).mono ?_
        rintro e w' ⟨rfl, rfl⟩
        go_wp2_with fail
        refine (zzReadUint_any _ 0 0 (fun _ => 0) (fun _ => by simp) _ (by omega) (Or.inl rfl)).mono ?_
        rintro e w' ⟨rfl, rfl⟩
        go_wp2
        go_ret
        exact ⟨by simp, Below.refl _ _⟩
    | some y =>
      clear h h0 h1
      go_enter Try.func6, Try.ntmps6
      go_wp2_with (go_at_call 17; refine (bytes_ok _ _ _ _ _ _ _ (by omega)).mono ?_; rintro e w' ⟨rfl, rfl⟩)
      go_loopw [8, 9] (fun c i wr => c = .int .i64 0 ∧ i = .int .i64 0 ∧ Below w.heap.size w wr) (fun _ i _ => 0)
      case atStart => exact ⟨rfl, rfl, (Below.refl _ _).alloc (Nat.le_refl _) _⟩
      case round =>
        obtain ⟨rfl, rfl, hbel⟩ := hrel
        go_wp2_with fail
        refine (zzReadUint_any _ 0 0 (fun _ => 0) (fun _ => by simp) _ (by omega) (Or.inl rfl)).mono ?_
        rintro e w' ⟨rfl, rfl⟩
        go_wp2_with fail
        refine (zzReadUint_any _ 0 0 (fun _ => 0) (fun _ => by simp) _ (by omega) (Or.inl rfl)).mono ?_
        rintro e w' ⟨rfl, rfl⟩
        go_wp2
        go_ret
        exact ⟨by simp, hbel⟩
  | some x =>
    cases a1 with
    | some y => simp at h
    | none =>
      obtain rfl := h1 rfl
      clear h h0 h1
      go_enter Try.func6, Try.ntmps6
      go_wp2_with (go_at_call 17; refine (bytes_ok _ _ _ _ _ _ _ (by omega)).mono ?_; rintro e w' ⟨rfl, rfl⟩)
      go_loopw [8, 9] (fun c i wr => c = .int .i64 0 ∧ i = .int .i64 0 ∧ Below w.heap.size w wr) (fun _ i _ => 0)
      case atStart => exact ⟨rfl, rfl, (Below.refl _ _).alloc (Nat.le_refl _) _⟩
      case round =>
        obtain ⟨rfl, rfl, hbel⟩ := hrel
        go_wp2_with fail
        refine (zzReadUint_any _ 0 0 (fun _ => 0) (fun _ => by simp) _ (by omega) (Or.inl rfl)).mono ?_
        rintro e w' ⟨rfl, rfl⟩
        go_wp2_with fail
        refine (zzReadUint_any _ 0 0 (fun _ => 0) (fun _ => by simp) _ (by omega) (Or.inl rfl)).mono ?_
        rintro e w' ⟨rfl, rfl⟩
        go_wp2
        go_ret
        exact ⟨by simp, hbel⟩

theorem same_len (a0 a1 : Option Addr) (n cap0 cap1 : Nat) (f g : Nat → Int) (hf : Byt f) (hg : Byt g) (w : World) (hm : n ≤ 524288)
    (hs0 : Seen w a0 n f) (hs1 : Seen w a1 n g) (h0 : a0 = none → n = 0 ∧ cap0 = 0) (h1 : a1 = none → n = 0 ∧ cap1 = 0) :
    Calls Try.prog 6 #[.slice a0 n cap0, .slice a1 n cap1] w fun e w' => e = .returned (.bool true) ∧ Below w.heap.size w w' := by
  by_cases h : a0 = none ∨ a1 = none
  · have hn : n = 0 := by
      rcases h with h | h
      · exact (h0 h).1
      · exact (h1 h).1
    subst hn
    exact one_nil a0 a1 cap0 cap1 w (fun e => (h0 e).2) (fun e => (h1 e).2) h
  · cases a0 with
    | none => simp at h
    | some x =>
      cases a1 with
      | none => simp at h
      | some y => exact both_some x y n cap0 cap1 f g hf hg w hm hs0 hs1

end Go.Proofs.Qxb6602287a.Order
