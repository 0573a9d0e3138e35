/-
  THE CALLEES' CONTRACTS: readUint, putUint, zzCloneBytes, zzTailByte, zzTailValue, zzGateByte ..
-/
import Derived.Test.Qxb6602287aRows
import Derived.Test.Qxb6602287aPlain
import Derived.WalkKit
import Derived.WalkSpells
import Derived.WalkLawsBesides
import Derived.Below
import Derived.Deep.OwnRows
import Derived.Outline
import Derived.OpenShut
import Derived.Laws.CopyOwn
namespace Go.Proofs.Qxb6602287a.Walks
open Go.RowKit Plain

theorem ret_int {k : IntKind} {a b : Int} (h : a = b) : Ending.returned (.int k a) = .returned (.int k b) := by rw [h]

/-- 'v<<8 | c' on a uint64, c a byte -/
theorem or_byte {v c : Int} (hc : 0 ≤ c ∧ c ≤ 255) :
    bits .or .u64 (IntKind.u64.wrap (v * 256)) c = v * 256 % 18446744073709551616 + c := by
  rw [IntKind.wrap_u64, u64_or _ _ (by omega) (by omega) hc.1 (by omega)]
  rw [nat_join 8 _ _ (by omega) (by omega)]
  omega

/-- readUint of a slice without an element -/
theorem readUint_none (a : Option Addr) (cap : Nat) (w : World) :
    Calls Try.prog 24 #[.slice a 0 cap] w fun e w' => e = .returned (.int .u64 0) ∧ w' = w := by
  go_enter Try.func24, Try.ntmps24
  go_wp2
  go_loop [3, 8] (fun n i => i = .int .i64 0 ∧ n = .int .u64 0) (fun _ _ => 0)
  case atStart => exact ⟨rfl, rfl⟩
  case round =>
    obtain ⟨rfl, rfl⟩ := hrel
    go_wp2
    go_ret
    exact ⟨rfl, rfl⟩

theorem readUint_some (b off len cap : Nat) (f : Nat → Int) (hf : Byt f) (w : World) (hm : len ≤ 1048576)
    (hc : ∀ i, i < len → w.cell? ⟨b, off + i, none⟩ = some (.int .u8 (f i))) :
    Calls Try.prog 24 #[.slice (some ⟨b, off, none⟩) len cap] w fun e w' => e = .returned (.int .u64 (rd f len)) ∧ w' = w := by
  go_enter Try.func24, Try.ntmps24
  go_wp2
  go_loop [3, 8] (fun n i => ∃ k : Nat, k ≤ len ∧ i = .int .i64 k ∧ n = .int .u64 (rd f k)) (fun _ i => len - (intOf i).toNat)
  case atStart => exact ⟨0, Nat.zero_le _, rfl, rfl⟩
  case round =>
    obtain ⟨k, hk, rfl, rfl⟩ := hrel
    by_cases hlt : k < len
    · have hck := hc k hlt
      have hfk := hf k
      have hr := rd_bd f k
      go_wp2
      go_round
      case rel => exact ⟨k + 1, by omega, by go_num, by rw [or_byte hfk, rd_step hf]⟩
      case measure => simp [intOf]; omega
    · go_wp2
      go_ret
      have : k = len := by omega
      subst this
      exact ⟨rfl, rfl⟩

/-- A SLICE OF BYTES AS THE CALLEES SEE IT: it has no element, or it leads to a row whose first 'len' cells hold f. -/
def Seen (w : World) (a : Option Addr) (len : Nat) (f : Nat → Int) : Prop :=
  len = 0 ∨ ∃ b off, a = some ⟨b, off, none⟩ ∧ ∀ i, i < len → w.cell? ⟨b, off + i, none⟩ = some (.int .u8 (f i))

theorem readUint_any (a : Option Addr) (len cap : Nat) (f : Nat → Int) (hf : Byt f) (w : World) (hm : len ≤ 1048576) (h : Seen w a len f) :
    Calls Try.prog 24 #[.slice a len cap] w fun e w' => e = .returned (.int .u64 (rd f len)) ∧ w' = w := by
  rcases h with rfl | ⟨b, off, rfl, hc⟩
  · exact readUint_none a cap w
  · exact readUint_some b off len cap f hf w hm hc

theorem zzReadUint_any (a : Option Addr) (len cap : Nat) (f : Nat → Int) (hf : Byt f) (w : World) (hm : len ≤ 1048576) (h : Seen w a len f) :
    Calls Try.prog 15 #[.slice a len cap] w fun e w' => e = .returned (.int .u64 (rd f len)) ∧ w' = w := by
  go_enter Try.func15, Try.ntmps15
  go_wp2_with (go_at_call 24; refine (readUint_any _ _ _ _ hf _ hm h).mono ?_; rintro e w' ⟨rfl, rfl⟩)
  go_ret
  exact ⟨rfl, rfl⟩

/-- A ROW OF BYTES OF THE CALL's OWN: block g, n cells, not frozen. -/
def Own (w : World) (g n : Nat) (f : Nat → Int) : Prop :=
  ∃ cur t, w.heap[g]? = some (.cells cur t (0, 0)) ∧ cur.size = n ∧ ∀ i, i < n → cur[i]? = some (.int .u8 (f i))

theorem Own.cell {w : World} {g n : Nat} {f : Nat → Int} (h : Own w g n f) (i : Nat) (hi : i < n) : w.cell? ⟨g, i, none⟩ = some (.int .u8 (f i)) := by
  obtain ⟨cur, t, hg, hs, hc⟩ := h
  rw [cell_of_row w g i cur t (0, 0) hg, hc i hi]
theorem Own.frozen {w : World} {g n : Nat} {f : Nat → Int} (h : Own w g n f) (i : Nat) : w.frozen? ⟨g, i, none⟩ = false := by
  obtain ⟨cur, t, hg, hs, hc⟩ := h
  exact frozen_of_row w g i cur t hg
theorem Own.seen {w : World} {g n : Nat} {f : Nat → Int} (h : Own w g n f) : Seen w (some ⟨g, 0, none⟩) n f :=
  Or.inr ⟨g, 0, rfl, fun i hi => by rw [Nat.zero_add]; exact h.cell i hi⟩
theorem Own.below {w w' : World} {B g n : Nat} {f : Nat → Int} (h : Own w g n f) (hb : Below B w w') (hg : g < B) : Own w' g n f := by
  obtain ⟨cur, t, hh, hs, hc⟩ := h
  exact ⟨cur, t, by rw [hb.block g hg]; exact hh, hs, hc⟩
theorem Own.set {w : World} {g n : Nat} {f : Nat → Int} (h : Own w g n f) (j : Nat) (c : Int) :
    Own (w.setCell ⟨g, j, none⟩ (.int .u8 c)) g n (fun i => if i = j then c else f i) := by
  obtain ⟨cur, t, hh, hs, hc⟩ := h
  refine ⟨cur.setIfInBounds j (.int .u8 c), t, heap_setCell_same w g j cur t _ hh, by simpa using hs, fun i hi => ?_⟩
  rw [Array.getElem?_setIfInBounds]
  by_cases e : j = i
  · subst e; simp [hs, hi]
  · have e' : ¬ i = j := fun h => e h.symm
    simp only [if_neg e, if_neg e', hc i hi]
theorem Own.congr {w : World} {g n : Nat} {f f' : Nat → Int} (h : Own w g n f) (e : ∀ i, i < n → f i = f' i) : Own w g n f' := by
  obtain ⟨cur, t, hh, hs, hc⟩ := h
  exact ⟨cur, t, hh, hs, fun i hi => by rw [hc i hi, e i hi]⟩
theorem Own.size {w : World} {g n : Nat} {f : Nat → Int} (h : Own w g n f) : g < w.heap.size := by
  obtain ⟨cur, t, hh, hs, hc⟩ := h
  exact (Array.getElem?_eq_some_iff.1 hh).1
theorem Seen.below {w w' : World} {a : Option Addr} {n : Nat} {f : Nat → Int} (h : Seen w a n f) (hb : Below w.heap.size w w') : Seen w' a n f := by
  rcases h with h | ⟨b, off, rfl, hc⟩
  · exact Or.inl h
  · refine Or.inr ⟨b, off, rfl, fun i hi => ?_⟩
    have h1 := hc i hi
    have hlt : b < w.heap.size := World.block_lt_of_cell? _ _ h1
    rw [hb.cell (p := ⟨b, off + i, none⟩) hlt]; exact h1

theorem info5 : (Try.prog.info? 5).map (fun i => (i.zero, i.size, i.bytes)) = some (some (.int .u8 0), 1, 1) := by kernel_rfl

/-- 'make([]byte, n)' -/
theorem make_bytes (n : Nat) (hm : n ≤ 1048576) (w : World) :
    (Instr.makeSlice 24 (.int .i64 (n : Int)) (.int .i64 (n : Int))).run Try.prog w = .ok (.slice (some ⟨w.heap.size, 0, none⟩) n n) (w.alloc (.cells (madeCells #[.int .u8 0] n) 5)) :=
  run_make_row' 24 5 (.int .u8 0) 1 Try.underlying24 info5 rfl .i64 .i64 n (by omega) (by omega) w

theorem Own.made (w : World) (n : Nat) : Own (w.alloc (.cells (madeCells #[.int .u8 0] n) 5)) w.heap.size n (fun _ => 0) := by
  refine ⟨madeCells #[.int .u8 0] n, 5, heap_alloc_new w _, by simp [madeCells], fun i hi => ?_⟩
  have h := toList_madeCells_one (.int .u8 0) n
  rw [← Array.getElem?_toList, h]
  simp [hi]

/-- 'b == nil' -/
theorem eq_nil (a : Option Addr) (l c : Nat) (w : World) : (binOp .eql 24 (.slice a l c) (.slice none 0 0)).run Try.prog w = .ok (.bool a.isNone) w :=
  Lib.run_eql_slice_nil w 24 5 a l c 0 0 Try.underlying24

set_option maxHeartbeats 400000 in
theorem clone_nil (w : World) : Calls Try.prog 19 #[.slice none 0 0] w fun e w' => e = .returned (.slice none 0 0) ∧ w' = w := by
  have heq := eq_nil
  go_enter Try.func19, Try.ntmps19
  go_wp2
  go_ret
  exact ⟨rfl, rfl⟩

set_option maxHeartbeats 400000 in
theorem clone_row (b off len cap : Nat) (f : Nat → Int) (w : World) (hm : len ≤ 1048576)
    (hc : ∀ i, i < len → w.cell? ⟨b, off + i, none⟩ = some (.int .u8 (f i))) :
    Calls Try.prog 19 #[.slice (some ⟨b, off, none⟩) len cap] w fun e w' => e = .returned (.slice (some ⟨w.heap.size, 0, none⟩) len len) ∧ Own w' w.heap.size len f ∧ Below w.heap.size w w' := by
  have hmk := make_bytes len hm
  have heq := eq_nil
  go_enter Try.func19, Try.ntmps19
  go_wp2
  go_loopw [4] (fun i wr => ∃ k : Nat, k ≤ len ∧ i = .int .i64 k ∧ Own wr w.heap.size len (fun i => if i < k then f i else 0) ∧ Below w.heap.size w wr) (fun i _ => len - (intOf i).toNat)
  case atStart => exact ⟨0, Nat.zero_le _, rfl, by simpa using Own.made w len, (Below.refl _ _).alloc (Nat.le_refl _) _⟩
  case round =>
    obtain ⟨k, hk, rfl, hown, hbel⟩ := hrel
    by_cases hlt : k < len
    · have h1 := hc k hlt
      have hck : wr.cell? ⟨b, off + k, none⟩ = some (.int .u8 (f k)) := by rw [hbel.cell (World.block_lt_of_cell? _ _ h1)]; exact h1
      have hok := hown.cell k hlt
      have hfz := hown.frozen k
      go_wp2
      go_roundw
      case rel =>
        refine ⟨k + 1, by omega, by go_num, (hown.set k (f k)).congr (fun i hi => ?_), hbel.setCell (Nat.le_refl _) _⟩
        by_cases e : i = k
        · subst e; simp
        · by_cases h2 : i < k
          · simp [e, h2, Nat.lt_succ_of_lt h2]
          · simp [e, h2, show ¬ i < k + 1 by omega]
      case measure => simp [intOf]; omega
    · go_wp2
      go_ret
      have : k = len := by omega
      subst this
      exact ⟨rfl, hown.congr (fun i hi => by simp [hi]), hbel⟩

set_option maxHeartbeats 400000 in
theorem clone_empty (x : Addr) (cap : Nat) (f : Nat → Int) (w : World) :
    Calls Try.prog 19 #[.slice (some x) 0 cap] w fun e w' => e = .returned (.slice (some ⟨w.heap.size, 0, none⟩) 0 0) ∧ Own w' w.heap.size 0 f ∧ Below w.heap.size w w' := by
  have hmk : ∀ w : World, (Instr.makeSlice 24 (.int .i64 0) (.int .i64 0)).run Try.prog w = .ok (.slice (some ⟨w.heap.size, 0, none⟩) 0 0) (w.alloc (.cells (madeCells #[.int .u8 0] 0) 5)) := make_bytes 0 (by omega)
  have heq := eq_nil
  go_enter Try.func19, Try.ntmps19
  go_wp2
  go_loopw [4] (fun i wr => i = .int .i64 0 ∧ wr = w.alloc (.cells (madeCells #[.int .u8 0] 0) 5)) (fun i _ => 0)
  case atStart => exact ⟨rfl, rfl⟩
  case round =>
    obtain ⟨rfl, rfl⟩ := hrel
    go_wp2
    go_ret
    exact ⟨rfl, (Own.made w 0).congr (fun i hi => absurd hi (Nat.not_lt_zero _)), (Below.refl _ _).alloc (Nat.le_refl _) _⟩

/-- zzCloneBytes: nil stays nil; all else is copied into a new block. -/
theorem clone_any (a : Option Addr) (len cap : Nat) (f : Nat → Int) (w : World) (hm : len ≤ 1048576) (hn : a = none → len = 0 ∧ cap = 0) (h : Seen w a len f) :
    Calls Try.prog 19 #[.slice a len cap] w fun e w' => ∃ a', e = .returned (.slice a' len len) ∧ Below w.heap.size w w' ∧
      ((a' = none ∧ a = none ∧ len = 0) ∨ (a' = some ⟨w.heap.size, 0, none⟩ ∧ Own w' w.heap.size len f)) := by
  cases a with
  | none =>
    obtain ⟨rfl, rfl⟩ := hn rfl
    refine (clone_nil w).mono ?_
    rintro e w' ⟨rfl, rfl⟩
    exact ⟨none, rfl, Below.refl _ _, Or.inl ⟨rfl, rfl, rfl⟩⟩
  | some x =>
    rcases h with rfl | ⟨b, off, hx, hc⟩
    · refine (clone_empty x cap f w).mono ?_
      rintro e w' ⟨rfl, ho, hb⟩
      exact ⟨_, rfl, hb, Or.inr ⟨rfl, ho⟩⟩
    · obtain rfl := Option.some.inj hx
      refine (clone_row b off len cap f w hm hc).mono ?_
      rintro e w' ⟨rfl, ho, hb⟩
      exact ⟨_, rfl, hb, Or.inr ⟨rfl, ho⟩⟩

/-! ### putUint -/
set_option maxHeartbeats 400000 in
theorem put_none (V : Int) (a : Option Addr) (cap : Nat) (w : World) :
    Calls Try.prog 26 #[.slice a 0 cap, .int .u64 V] w fun e w' => e = .returned (.tuple #[]) ∧ w' = w := by
  go_enter Try.func26, Try.ntmps26
  go_wp2
  go_loop [1, 4] (fun v i => i = .int .i64 (-1) ∧ v = .int .u64 V) (fun _ _ => 0)
  case atStart => exact ⟨rfl, rfl⟩
  case round =>
    obtain ⟨rfl, rfl⟩ := hrel
    go_wp2
    go_end0
    exact ⟨rfl, rfl⟩

set_option maxHeartbeats 400000 in
theorem put_own (V : Int) (hV : 0 ≤ V ∧ V < 18446744073709551616) (B g len : Nat) (f : Nat → Int) (w : World) (hm : len ≤ 1048576) (hB : B ≤ g) (ho : Own w g len f) :
    Calls Try.prog 26 #[.slice (some ⟨g, 0, none⟩) len len, .int .u64 V] w fun e w' => e = .returned (.tuple #[]) ∧ Own w' g len (pb V len) ∧ Below B w w' := by
  go_enter Try.func26, Try.ntmps26
  go_wp2
  go_loopw [1, 4] (fun v i wr => ∃ m : Nat, m ≤ len ∧ i = .int .i64 ((m : Int) - 1) ∧ v = .int .u64 (V / 256 ^ (len - m)) ∧ Own wr g len (fun i => if i < m then f i else pb V len i) ∧ Below B w wr) (fun _ i _ => (intOf i + 1).toNat)
  case atStart => exact ⟨len, Nat.le_refl _, rfl, by simp, ho.congr (fun i hi => by simp [hi]), Below.refl _ _⟩
  case round =>
    obtain ⟨m, hm', rfl, rfl, hown, hbel⟩ := hrel
    cases m with
    | zero =>
      go_wp2
      go_end0
      exact ⟨rfl, hown.congr (fun i hi => by simp), hbel⟩
    | succ j =>
      have e1 : ((j + 1 : Nat) : Int) - 1 = (j : Int) := by omega
      rw [e1]
      have hd := div_bd V hV.1 hV.2 (len - (j + 1))
      have hds := div_step V (len - (j + 1))
      obtain ⟨q, hq⟩ : ∃ q, q = V / 256 ^ (len - (j + 1)) := ⟨_, rfl⟩
      rw [← hq] at hd hds ⊢
      have HQ : Hid (q = V / 256 ^ (len - (j + 1))) := hq
      have HS : Hid (V / 256 ^ (len - (j + 1) + 1) = q / 256) := hds
      clear hq hds e1
      have hok := hown.cell j (by omega)
      have hfz := hown.frozen j
      go_wp2
      go_roundw
      case rel =>
        refine ⟨j, by omega, rfl, ?_, (hown.set j (q % 256)).congr (fun i hi => ?_), hbel.setCell hB _⟩
        · rw [← HS.out, show len - (j + 1) + 1 = len - j by omega]
        · by_cases e : i = j
          · subst e
            have e2 : len - 1 - i = len - (i + 1) := by omega
            simp [pb, HQ.out, e2]
          · by_cases h2 : i < j
            · simp [e, h2, Nat.lt_succ_of_lt h2]
            · simp [e, h2, show ¬ i < j + 1 by omega]
      case measure => simp [intOf]

theorem put_any (V : Int) (hV : 0 ≤ V ∧ V < 18446744073709551616) (B g len : Nat) (a : Option Addr) (f : Nat → Int) (w : World) (hm : len ≤ 1048576) (hB : B ≤ g)
    (h : (a = none ∧ len = 0) ∨ (a = some ⟨g, 0, none⟩ ∧ Own w g len f)) :
    Calls Try.prog 26 #[.slice a len len, .int .u64 V] w fun e w' => e = .returned (.tuple #[]) ∧ Below B w w' ∧ ((a = none ∧ len = 0) ∨ (a = some ⟨g, 0, none⟩ ∧ Own w' g len (pb V len))) := by
  rcases h with ⟨rfl, rfl⟩ | ⟨rfl, ho⟩
  · refine (put_none V none 0 w).mono ?_
    rintro e w' ⟨rfl, rfl⟩
    exact ⟨rfl, Below.refl _ _, Or.inl ⟨rfl, rfl⟩⟩
  · refine (put_own V hV B g len f w hm hB ho).mono ?_
    rintro e w' ⟨rfl, h1, h2⟩
    exact ⟨rfl, h2, Or.inr ⟨rfl, h1⟩⟩

theorem zzPut_any (V : Int) (hV : 0 ≤ V ∧ V < 18446744073709551616) (B g len : Nat) (a : Option Addr) (f : Nat → Int) (w : World) (hm : len ≤ 1048576) (hB : B ≤ g)
    (h : (a = none ∧ len = 0) ∨ (a = some ⟨g, 0, none⟩ ∧ Own w g len f)) :
    Calls Try.prog 20 #[.slice a len len, .int .u64 V] w fun e w' => e = .returned (.tuple #[]) ∧ Below B w w' ∧ ((a = none ∧ len = 0) ∨ (a = some ⟨g, 0, none⟩ ∧ Own w' g len (pb V len))) := by
  go_enter Try.func20, Try.ntmps20
  go_wp2_with (go_at_call 26; refine (put_any V hV B g len a f _ hm hB h).mono ?_; rintro e w' ⟨rfl, h2, h3⟩)
  go_end0
  exact ⟨rfl, ‹_›, ‹_›⟩

/-! ### zzTailByte, zzTailValue -/
set_option maxHeartbeats 400000 in
theorem tailByte_any (a : Option Addr) (len cap : Nat) (f : Nat → Int) (k : Nat) (w : World) (hm : len ≤ 1048576) (hk : k < 8) (h : Seen w a len f) :
    Calls Try.prog 25 #[.slice a len cap, .int .i64 (k : Int)] w fun e w' => e = .returned (.int .u8 (tb f len k)) ∧ w' = w := by
  by_cases hlt : len ≤ k
  · have et : tb f len k = 0 := by simp [tb, hlt]
    rw [et]
    clear et
    go_enter Try.func25, Try.ntmps25
    go_wp2
    go_ret
    exact ⟨rfl, rfl⟩
  · rcases h with rfl | ⟨b, off, rfl, hc⟩
    · omega
    · have et : tb f len k = f (len - 1 - k) := by simp [tb, hlt]
      rw [et]
      have hck := hc (len - 1 - k) (by omega)
      clear et hc
      go_enter Try.func25, Try.ntmps25
      go_wp2
      go_ret
      exact ⟨rfl, rfl⟩

theorem pow_two (k : Nat) : (2 : Int) ^ (8 * k) = 256 ^ k := by rw [Int.pow_mul]; rfl

theorem tv_step {f : Nat → Int} (hf : Byt f) (n k : Nat) (hk : k < 8) :
    IntKind.u64.wrap (tv f n k + IntKind.u64.wrap (tb f n k * 2 ^ (8 * k))) = tv f n (k + 1) := by
  have h1 := tv_bd hf n k
  have h2 := tv_bd hf n (k + 1)
  have h3 := pow_le8 (k + 1) (by omega)
  have h4 := tb_bd hf n k
  have h5 : 0 ≤ tb f n k * 256 ^ k := Int.mul_nonneg h4.1 (Int.le_of_lt (pow_pos k))
  rw [tv_succ] at h2 ⊢
  rw [pow_two, IntKind.wrap_u64, IntKind.wrap_u64]
  omega

set_option maxHeartbeats 400000 in
theorem tailValue_any (a : Option Addr) (len cap : Nat) (f : Nat → Int) (hf : Byt f) (w : World) (hm : len ≤ 1048576) (h : Seen w a len f) :
    Calls Try.prog 16 #[.slice a len cap] w fun e w' => e = .returned (.int .u64 (tv f len 8)) ∧ w' = w := by
  go_enter Try.func16, Try.ntmps16
  go_wp2
  go_loop [3, 4] (fun v i => ∃ k : Nat, k ≤ 8 ∧ i = .int .i64 k ∧ v = .int .u64 (tv f len k)) (fun _ i => 8 - (intOf i).toNat)
  case atStart => exact ⟨0, Nat.zero_le _, rfl, rfl⟩
  case round =>
    obtain ⟨k, hk, rfl, rfl⟩ := hrel
    by_cases hlt : k < 8
    · have hb := tb_bd hf len k
      go_wp2_with (go_at_call 25; refine (tailByte_any a len cap f k _ hm hlt h).mono ?_; rintro e w' ⟨rfl, rfl⟩)
      go_round
      case rel => exact ⟨k + 1, by omega, by go_num, by rw [tv_step hf len k hlt]⟩
      case measure => simp [intOf]; omega
    · go_wp2
      go_ret
      have : k = 8 := by omega
      subst this
      exact ⟨rfl, rfl⟩

/-! ### what a law does ahead of all else -/
/-- 'b != nil' -/
theorem ne_nil (a : Option Addr) (l c : Nat) (w : World) : (binOp .neq 24 (.slice a l c) (.slice none 0 0)).run Try.prog w = .ok (.bool (!a.isNone)) w :=
  run_neq_slice_nil_any w 24 5 a l c 0 0 Try.underlying24

/-- A SLICE OF BYTES THAT CAME IN (the shell's 'IsRow', laid open), as the callees see it. -/
theorem row_seen {w : World} {a : Option Addr} {len cap : Nat} {zs : List Int}
    (h : (a = none ∧ len = 0 ∧ cap = 0 ∧ zs = []) ∨ ∃ x, a = some x ∧ len ≤ cap ∧ cap ≤ maxLen ∧ zs.length = cap ∧ (∀ i, i < zs.length → w.cell? (x.add i) = some (.int .u8 (zs.getD i 0))) ∧ ∀ n ∈ zs, (Lit.int .u8 n).wf = true) :
    ∃ f, Seen w a len f ∧ Byt f ∧ len ≤ 9223372036854775807 ∧ (a = none → len = 0 ∧ cap = 0) := by
  refine ⟨fun i => zs.getD i 0, ?_⟩
  rcases h with ⟨rfl, rfl, rfl, rfl⟩ | ⟨x, rfl, hl, hm, hz, hc, hw⟩
  · exact ⟨Or.inl rfl, fun i => by simp, by omega, fun _ => ⟨rfl, rfl⟩⟩
  · have hb : Byt (fun i => zs.getD i 0) := fun i => by
      have := range_u8 hw i
      simpa [List.getD] using this
    unfold maxLen at hm
    refine ⟨?_, hb, by omega, fun h => by cases h⟩
    by_cases h0 : len = 0
    · exact Or.inl h0
    · obtain ⟨b, off, spot⟩ := x
      have h1 := hc 0 (by omega)
      have hs : spot = none := by simpa [Addr.add] using World.cell?_spot h1
      subst hs
      refine Or.inr ⟨b, off, rfl, fun i hi => ?_⟩
      have h2 := hc i (by omega)
      rwa [Addr.add_lit] at h2

theorem size5 : (Try.prog.info? 5).map (·.size) = some 1 := by kernel_rfl

/-- 'zzc := make([]byte, len(b)); copy(zzc, b)' -/
theorem copy_in (w : World) (a : Option Addr) (n cap : Nat) (f : Nat → Int) (h : Seen w a n f) :
    ∃ w1, (∀ ty, (Builtin.copy_ #[24, 24] ty #[.slice (some ⟨w.heap.size, 0, none⟩) n n, .slice a n cap]).run Try.prog (w.alloc (.cells (madeCells #[.int .u8 0] n) 5)) = .ok (.int .i64 (n : Int)) w1) ∧
      Own w1 w.heap.size n f ∧ Below w.heap.size w w1 := by
  rcases h with rfl | ⟨b, off, rfl, hc⟩
  · refine ⟨_, fun ty => run_copy_none (P := Try.prog) _ 24 24 ty 5 _ a 0 0 0 cap Try.underlying24 size5 rfl, (Own.made w 0).congr (fun i hi => absurd hi (Nat.not_lt_zero _)), (Below.refl _ _).alloc (Nat.le_refl _) _⟩
  · have hcur : (madeCells #[Value.int .u8 0] n).size = n := by simp [madeCells]
    have hsrc : ∀ j v, ((List.range n).map (fun i => Value.int .u8 (f i)))[j]? = some v → (w.alloc (.cells (madeCells #[.int .u8 0] n) 5)).cell? ((⟨b, off, none⟩ : Addr).add j) = some v := by
      intro j v hv
      have hj : j < n := by
        have := (List.getElem?_eq_some_iff.1 hv).1
        simpa using this
      simp [hj] at hv
      subst hv
      have h1 := hc j hj
      rw [Addr.add_lit, ((Below.refl w.heap.size w).alloc (Nat.le_refl _) _).cell (World.block_lt_of_cell? _ _ h1)]
      exact h1
    have hr := fun ty => run_copy_row (P := Try.prog) (w.alloc (.cells (madeCells #[.int .u8 0] n) 5)) 24 24 ty 5 w.heap.size 0 n n ⟨b, off, none⟩ n cap (madeCells #[.int .u8 0] n) 5 ((List.range n).map (fun i => Value.int .u8 (f i))) Try.underlying24 size5
      (heap_alloc_new w _) (by simp) hsrc (by simp [hcur]) (by simp [Value.oneCell'])
    have hlen : (((List.range n).map (fun i => Value.int .u8 (f i))).length : Int) = (n : Int) := by simp
    refine ⟨_, fun ty => by rw [hr ty]; simp [goInt]; rfl, ?_, ?_⟩
    · refine ⟨_, 5, setRow_heap _ w.heap.size _ _ 5 _ (heap_alloc_new w _), by simp [hcur], fun i hi => ?_⟩
      simp [hi, hcur]
    · exact below_setRow ((Below.refl _ _).alloc (Nat.le_refl _) _) (Nat.le_refl _) _

end Go.Proofs.Qxb6602287a.Walks
