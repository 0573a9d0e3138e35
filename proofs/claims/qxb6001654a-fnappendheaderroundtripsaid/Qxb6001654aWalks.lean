/-
  Slices of bytes: one that came in, one of the call's own; 'make' and 'copy'; cloneBytesB1 by its contract.
-/
import Derived.Test.Qxb6001654aRows
import Derived.Test.Qxb6001654aPlain
import Derived.WalkKit
import Derived.WalkSpells
import Derived.WalkLawsBesides
import Derived.Below
import Derived.Deep.OwnRows
import Derived.OpenShut
import Derived.Laws.CopyOwn
namespace Go.Proofs.Qxb6001654a.Walks
open Go.RowKit Plain

/-- A SLICE OF BYTES AS THE CALLEES SEE IT: it has no element, or it leads to a row whose first 'len' cells hold f. -/
def Seen (w : World) (a : Option Addr) (len : Nat) (f : Nat → Int) : Prop :=
  len = 0 ∨ ∃ b off, a = some ⟨b, off, none⟩ ∧ ∀ i, i < len → w.cell? ⟨b, off + i, none⟩ = some (.int .u8 (f i))

/-- A ROW OF BYTES OF THE CALL's OWN: block g, n cells, not frozen. -/
def Own (w : World) (g n : Nat) (f : Nat → Int) : Prop :=
  ∃ cur t, w.heap[g]? = some (.cells cur t (0, 0)) ∧ cur.size = n ∧ ∀ i, i < n → cur[i]? = some (.int .u8 (f i))

theorem Own.cell {w : World} {g n : Nat} {f : Nat → Int} (h : Own w g n f) (i : Nat) (hi : i < n) : w.cell? ⟨g, i, none⟩ = some (.int .u8 (f i)) := by
  obtain ⟨cur, t, hg, hs, hc⟩ := h
  rw [cell_of_row w g i cur t (0, 0) hg, hc i hi]
theorem Own.frozen {w : World} {g n : Nat} {f : Nat → Int} (h : Own w g n f) (i : Nat) : w.frozen? ⟨g, i, none⟩ = false := by
  obtain ⟨cur, t, hg, hs, hc⟩ := h
  exact frozen_of_row w g i cur t hg
theorem Own.seen {w : World} {g n : Nat} {f : Nat → Int} (h : Own w g n f) : Seen w (some ⟨g, 0, none⟩) n f :=
  Or.inr ⟨g, 0, rfl, fun i hi => by rw [Nat.zero_add]; exact h.cell i hi⟩
theorem Own.below {w w' : World} {B g n : Nat} {f : Nat → Int} (h : Own w g n f) (hb : Below B w w') (hg : g < B) : Own w' g n f := by
  obtain ⟨cur, t, hh, hs, hc⟩ := h
  exact ⟨cur, t, by rw [hb.block g hg]; exact hh, hs, hc⟩
theorem Own.set {w : World} {g n : Nat} {f : Nat → Int} (h : Own w g n f) (j : Nat) (c : Int) :
    Own (w.setCell ⟨g, j, none⟩ (.int .u8 c)) g n (fun i => if i = j then c else f i) := by
  obtain ⟨cur, t, hh, hs, hc⟩ := h
  refine ⟨cur.setIfInBounds j (.int .u8 c), t, heap_setCell_same w g j cur t _ hh, by simpa using hs, fun i hi => ?_⟩
  rw [Array.getElem?_setIfInBounds]
  by_cases e : j = i
  · subst e; simp [hs, hi]
  · have e' : ¬ i = j := fun h => e h.symm
    simp only [if_neg e, if_neg e', hc i hi]
theorem Own.congr {w : World} {g n : Nat} {f f' : Nat → Int} (h : Own w g n f) (e : ∀ i, i < n → f i = f' i) : Own w g n f' := by
  obtain ⟨cur, t, hh, hs, hc⟩ := h
  exact ⟨cur, t, hh, hs, fun i hi => by rw [hc i hi, e i hi]⟩
theorem Own.size {w : World} {g n : Nat} {f : Nat → Int} (h : Own w g n f) : g < w.heap.size := by
  obtain ⟨cur, t, hh, hs, hc⟩ := h
  exact (Array.getElem?_eq_some_iff.1 hh).1
theorem Seen.below {w w' : World} {a : Option Addr} {n : Nat} {f : Nat → Int} (h : Seen w a n f) (hb : Below w.heap.size w w') : Seen w' a n f := by
  rcases h with h | ⟨b, off, rfl, hc⟩
  · exact Or.inl h
  · refine Or.inr ⟨b, off, rfl, fun i hi => ?_⟩
    have h1 := hc i hi
    have hlt : b < w.heap.size := World.block_lt_of_cell? _ _ h1
    rw [hb.cell (p := ⟨b, off + i, none⟩) hlt]; exact h1

theorem info5 : (Try.prog.info? 5).map (fun i => (i.zero, i.size, i.bytes)) = some (some (.int .u8 0), 1, 1) := by kernel_rfl

/-- 'make([]byte, n)' -/
theorem make_bytes (n : Nat) (hm : n ≤ 1048576) (w : World) :
    (Instr.makeSlice 22 (.int .i64 (n : Int)) (.int .i64 (n : Int))).run Try.prog w = .ok (.slice (some ⟨w.heap.size, 0, none⟩) n n) (w.alloc (.cells (madeCells #[.int .u8 0] n) 5)) :=
  run_make_row' 22 5 (.int .u8 0) 1 Try.underlying22 info5 rfl .i64 .i64 n (by omega) (by omega) w

theorem Own.made (w : World) (n : Nat) : Own (w.alloc (.cells (madeCells #[.int .u8 0] n) 5)) w.heap.size n (fun _ => 0) := by
  refine ⟨madeCells #[.int .u8 0] n, 5, heap_alloc_new w _, by simp [madeCells], fun i hi => ?_⟩
  have h := toList_madeCells_one (.int .u8 0) n
  rw [← Array.getElem?_toList, h]
  simp [hi]

/-- 'b == nil' -/
theorem eq_nil (a : Option Addr) (l c : Nat) (w : World) : (binOp .eql 22 (.slice a l c) (.slice none 0 0)).run Try.prog w = .ok (.bool a.isNone) w :=
  Lib.run_eql_slice_nil w 22 5 a l c 0 0 Try.underlying22

/-- A SLICE OF BYTES THAT CAME IN (the shell's 'IsRow', laid open), as the callees see it. -/
theorem row_seen {w : World} {a : Option Addr} {len cap : Nat} {zs : List Int}
    (h : (a = none ∧ len = 0 ∧ cap = 0 ∧ zs = []) ∨ ∃ x, a = some x ∧ len ≤ cap ∧ cap ≤ maxLen ∧ zs.length = cap ∧ (∀ i, i < zs.length → w.cell? (x.add i) = some (.int .u8 (zs.getD i 0))) ∧ ∀ n ∈ zs, (Lit.int .u8 n).wf = true) :
    ∃ f, Seen w a len f ∧ Byt f ∧ len ≤ 9223372036854775807 ∧ (a = none → len = 0 ∧ cap = 0) := by
  refine ⟨fun i => zs.getD i 0, ?_⟩
  rcases h with ⟨rfl, rfl, rfl, rfl⟩ | ⟨x, rfl, hl, hm, hz, hc, hw⟩
  · exact ⟨Or.inl rfl, fun i => by simp, by omega, fun _ => ⟨rfl, rfl⟩⟩
  · have hb : Byt (fun i => zs.getD i 0) := fun i => by
      have := range_u8 hw i
      simpa [List.getD] using this
    unfold maxLen at hm
    refine ⟨?_, hb, by omega, fun h => by cases h⟩
    by_cases h0 : len = 0
    · exact Or.inl h0
    · obtain ⟨b, off, spot⟩ := x
      have h1 := hc 0 (by omega)
      have hs : spot = none := by simpa [Addr.add] using World.cell?_spot h1
      subst hs
      refine Or.inr ⟨b, off, rfl, fun i hi => ?_⟩
      have h2 := hc i (by omega)
      rwa [Addr.add_lit] at h2

theorem size5 : (Try.prog.info? 5).map (·.size) = some 1 := by kernel_rfl

/-- 'zzc := make([]byte, len(b)); copy(zzc, b)' -/
theorem copy_in (w : World) (a : Option Addr) (n cap : Nat) (f : Nat → Int) (h : Seen w a n f) :
    ∃ w1, (∀ ty, (Builtin.copy_ #[22, 22] ty #[.slice (some ⟨w.heap.size, 0, none⟩) n n, .slice a n cap]).run Try.prog (w.alloc (.cells (madeCells #[.int .u8 0] n) 5)) = .ok (.int .i64 (n : Int)) w1) ∧
      Own w1 w.heap.size n f ∧ Below w.heap.size w w1 := by
  rcases h with rfl | ⟨b, off, rfl, hc⟩
  · refine ⟨_, fun ty => run_copy_none (P := Try.prog) _ 22 22 ty 5 _ a 0 0 0 cap Try.underlying22 size5 rfl, (Own.made w 0).congr (fun i hi => absurd hi (Nat.not_lt_zero _)), (Below.refl _ _).alloc (Nat.le_refl _) _⟩
  · have hcur : (madeCells #[Value.int .u8 0] n).size = n := by simp [madeCells]
    have hsrc : ∀ j v, ((List.range n).map (fun i => Value.int .u8 (f i)))[j]? = some v → (w.alloc (.cells (madeCells #[.int .u8 0] n) 5)).cell? ((⟨b, off, none⟩ : Addr).add j) = some v := by
      intro j v hv
      have hj : j < n := by
        have := (List.getElem?_eq_some_iff.1 hv).1
        simpa using this
      simp [hj] at hv
      subst hv
      have h1 := hc j hj
      rw [Addr.add_lit, ((Below.refl w.heap.size w).alloc (Nat.le_refl _) _).cell (World.block_lt_of_cell? _ _ h1)]
      exact h1
    have hr := fun ty => run_copy_row (P := Try.prog) (w.alloc (.cells (madeCells #[.int .u8 0] n) 5)) 22 22 ty 5 w.heap.size 0 n n ⟨b, off, none⟩ n cap (madeCells #[.int .u8 0] n) 5 ((List.range n).map (fun i => Value.int .u8 (f i))) Try.underlying22 size5
      (heap_alloc_new w _) (by simp) hsrc (by simp [hcur]) (by simp [Value.oneCell'])
    have hlen : (((List.range n).map (fun i => Value.int .u8 (f i))).length : Int) = (n : Int) := by simp
    refine ⟨_, fun ty => by rw [hr ty]; simp [goInt]; rfl, ?_, ?_⟩
    · refine ⟨_, 5, setRow_heap _ w.heap.size _ _ 5 _ (heap_alloc_new w _), by simp [hcur], fun i hi => ?_⟩
      simp [hi, hcur]
    · exact below_setRow ((Below.refl _ _).alloc (Nat.le_refl _) _) (Nat.le_refl _) _


theorem sl_ne (x : Addr) (l c : Nat) (w : World) : (binOp .eql 22 (.slice (some x) l c) (.slice none 0 0)).run Try.prog w = .ok (.bool false) w := eq_nil (some x) l c w

/-- cloneBytesB1 -/
theorem clone_nil (w : World) : Calls Try.prog 7 #[.slice none 0 0] w fun e w' => e = .returned (.slice none 0 0) ∧ w = w' := by
  have heq : ∀ w : World, (binOp .eql 22 (.slice none 0 0) (.slice none 0 0)).run Try.prog w = .ok (.bool true) w := eq_nil none 0 0
  go_enter Try.func7, Try.ntmps7
  go_wp2
  go_ret
  exact ⟨rfl, rfl⟩

theorem clone_some (x : Addr) (n cap : Nat) (f : Nat → Int) (w : World) (hm : n ≤ 1048576) (hs : Seen w (some x) n f) :
    Calls Try.prog 7 #[.slice (some x) n cap] w fun e w' => e = .returned (.slice (some ⟨w.heap.size, 0, none⟩) n n) ∧ Own w' w.heap.size n f ∧ Below w.heap.size w w' := by
  have hmk := make_bytes n hm
  have hne := sl_ne
  obtain ⟨w1, hc1, ho1, hb1⟩ := copy_in w (some x) n cap f hs
  go_enter Try.func7, Try.ntmps7
  go_wp2
  go_ret
  exact ⟨rfl, ho1, hb1⟩

/-! ### lengthBytes, headerSize -/
set_option maxHeartbeats 400000 in
theorem lengthBytes_any (s : Int) (h0 : 0 ≤ s) (h1 : s < 9223372036854775808) (w : World) :
    Calls Try.prog 15 #[.int .i64 s] w fun e w' => e = .returned (.int .i64 (lb s)) ∧ w = w' := by
  go_enter Try.func15, Try.ntmps15
  go_wp2
  go_loop [0, 3] (fun t i => ∃ k : Nat, 1 ≤ k ∧ k ≤ 8 ∧ i = .int .i64 k ∧ t = .int .i64 (s / 256 ^ k) ∧ (k = 1 ∨ 256 ^ (k - 1) ≤ s)) (fun t _ => (intOf t).toNat)
  case atStart => exact ⟨1, by omega, by omega, rfl, by simp, Or.inl rfl⟩
  case round =>
    obtain ⟨k, hk1, hk8, rfl, rfl, hle⟩ := hrel
    have hd := div_bd s h0 k
    have hst := div_step s k
    have H1 : Hid (0 < s / 256 ^ k → 256 ^ k ≤ s ∧ k < 8) := fun h => by
      have hp := le_of_div (j := k) (v := s) (by omega)
      refine ⟨hp, ?_⟩
      by_cases e : k < 8
      · exact e
      · have := pow_mono (show 8 ≤ k by omega)
        rw [pow8] at this
        omega
    have H2 : Hid (¬ 0 < s / 256 ^ k → lb s = k) := fun h => lb_is s h0 h1 k hk1 (lt_of_div (by omega)) hle
    have HS : Hid (s / 256 ^ (k + 1) = s / 256 ^ k / 256) := hst
    clear hst hle
    generalize hq : s / 256 ^ k = q at *
    clear hq
    by_cases hlt : 0 < q
    · go_wp2
      go_round
      case rel =>
        have := H1.out hlt
        exact ⟨k + 1, by omega, by omega, by go_num, by rw [HS.out], Or.inr this.1⟩
      case measure => simp [intOf]; omega
    · go_wp2
      go_ret
      rw [H2.out hlt]
      exact ⟨rfl, rfl⟩

theorem headerSize_any (s : Int) (h0 : 0 ≤ s) (h1 : s < 9223372036854775808) (w : World) :
    Calls Try.prog 14 #[.int .i64 s] w fun e w' => e = .returned (.int .i64 (hl s)) ∧ w = w' := by
  have hb := lb_bd s
  by_cases h : s < 56
  · have e : (hl s : Int) = 1 := by simp [hl, h]
    rw [e]
    clear e
    go_enter Try.func14, Try.ntmps14
    go_wp2
    go_ret
    exact ⟨rfl, rfl⟩
  · have e : (hl s : Int) = 1 + (lb s : Int) := by simp [hl, h]
    rw [e]
    clear e
    go_enter Try.func14, Try.ntmps14
    go_wp2_with (go_at_call 15; refine (lengthBytes_any s h0 h1 _).mono ?_; rintro e w' ⟨rfl, rfl⟩)
    go_ret
    exact ⟨rfl, rfl⟩

theorem zzHeaderSize_any (s : Int) (h0 : 0 ≤ s) (h1 : s < 9223372036854775808) (w : World) :
    Calls Try.prog 11 #[.int .i64 s] w fun e w' => e = .returned (.int .i64 (hl s)) ∧ w = w' := by
  go_enter Try.func11, Try.ntmps11
  go_wp2_with (go_at_call 14; refine (headerSize_any s h0 h1 _).mono ?_; rintro e w' ⟨rfl, rfl⟩)
  go_ret
  exact ⟨rfl, rfl⟩

/-! ### appendHeader -/
theorem info5' : ∃ i, Try.prog.info? 5 = some i ∧ i.zero = some (.int .u8 0) ∧ i.size = 1 ∧ i.bytes = 1 := info_parts info5

/-- the cells of a row of bytes, as a list -/
def cellsOf (h : Nat → Int) (n : Nat) : List Value := (List.range n).map (fun i => Value.int .u8 (h i))
theorem cellsOf_len (h : Nat → Int) (n : Nat) : (cellsOf h n).length = n := by simp [cellsOf]
theorem cellsOf_succ (h : Nat → Int) (n : Nat) : cellsOf h (n + 1) = cellsOf h n ++ [.int .u8 (h n)] := by simp [cellsOf, List.range_succ]
theorem cellsOf_get (h : Nat → Int) (n i : Nat) (hi : i < n) : (cellsOf h n)[i]? = some (.int .u8 (h i)) := by simp [cellsOf, hi]
theorem cellsOf_congr {h h' : Nat → Int} {n : Nat} (e : ∀ i, i < n → h i = h' i) : cellsOf h n = cellsOf h' n := by
  apply List.ext_getElem?
  intro i
  by_cases hi : i < n
  · rw [cellsOf_get h n i hi, cellsOf_get h' n i hi, e i hi]
  · rw [List.getElem?_eq_none (by rw [cellsOf_len]; omega), List.getElem?_eq_none (by rw [cellsOf_len]; omega)]

/-- the one new cell of an append, in a block of its own -/
theorem one_new (w : World) (c : Int) : ∀ j u, [Value.int .u8 c][j]? = some u → (w.alloc (.cells #[.int .u8 c] 5)).cell? ((⟨w.heap.size, 0, none⟩ : Addr).add j) = some u := by
  intro j u hj
  match j, hj with
  | 0, hj => simp at hj; subst hj; simp [Addr.add]
  | j + 1, hj => simp at hj

theorem old_cells {w : World} {a : Option Addr} {xs : List Value} (hs : ∀ b, a = some b → ∀ j u, xs[j]? = some u → w.cell? (b.add j) = some u) (o : Obj) :
    ∀ b, a = some b → ∀ j u, xs[j]? = some u → (w.alloc o).cell? (b.add j) = some u := by
  intro b hb j u hu
  have h := hs b hb j u hu
  rw [((Below.refl w.heap.size w).alloc (Nat.le_refl _) o).cell (World.block_lt_of_cell? _ _ h)]
  exact h

theorem one_cell (c : Int) : ∀ u ∈ [Value.int .u8 c], u.oneCell' = true := by
  intro u hu
  simp at hu
  subst hu
  rfl

set_option maxHeartbeats 400000 in
theorem append_short (a : Option Addr) (n : Nat) (f : Nat → Int) (off s : Int) (ho : 0 ≤ off ∧ off ≤ 192) (h0 : 0 ≤ s) (h56 : s < 56) (w : World) (hm : n ≤ 1048576)
    (hn : a = none → n = 0) (hs : ∀ b, a = some b → ∀ j u, (cellsOf f n)[j]? = some u → w.cell? (b.add j) = some u) :
    Calls Try.prog 13 #[.slice a n n, .int .u8 off, .int .i64 s] w fun e w' => ∃ v', e = .returned v' ∧ w'.ownsRow (w.heap.size + 1) 5 1 v' (n + 1) (cellsOf f n ++ [.int .u8 (off + s)]) ∧ Below w.heap.size w w' := by
  obtain ⟨i0, hi, hz0, hz1, hz2⟩ := info5'
  go_enter Try.func13, Try.ntmps13
  go_wp2_with (at_builtin; refine wpList_append_grows _ rfl (.tmp 11) (.tmp 16) 22 rfl 5 i0 (.int .u8 0) 1 1 Try.underlying22 hi hz0 hz1 hz2 rfl (by decide) a n n (cellsOf f n) rfl ?c0 ?c1 ?c2 ⟨w.heap.size, 0, none⟩ 1 1 [.int .u8 (off + s)] rfl rfl ?c3 ?c4 ?c5 ?c6 ?c7 ?_)
  case c0 => exact fun h => ⟨hn h, hn h⟩
  case c1 => rw [cellsOf_len]; omega
  case c2 => exact old_cells hs _
  case c3 => exact one_new w _
  case c4 => exact one_cell _
  case c5 => omega
  case c6 => unfold maxLen; omega
  case c7 => omega
  intro v' w' hown hgrow
  go_wp2
  go_ret
  refine ⟨v', rfl, ?_, ?_⟩
  · simpa using hown
  · exact ((Below.refl _ _).alloc (Nat.le_refl _) _).grown hgrow (by simp) (fun k h => by cases h)

theorem own_from {w : World} {base : Nat} {e : TypeId} {size : Nat} {v : Value} {n : Nat} {xs : List Value} (h : w.ownsRow base e size v n xs) : ∀ k, v.ownBlock = some k → base ≤ k := by
  intro k hk
  rcases h.2 with ⟨rfl, _⟩ | ⟨g, cap, cur, rfl, hb, _⟩
  · simp [Value.ownBlock] at hk
  · simp [Value.ownBlock] at hk
    omega

/-- the old bytes and the header's first -/
theorem first_byte (f : Nat → Int) (n : Nat) (off s : Int) (h : ¬ s < 56) : cellsOf f n ++ [.int .u8 (off + 56 - 1 + (lb s : Int))] = cellsOf (both f n off s) (n + 1) := by
  rw [cellsOf_succ]
  have e : both f n off s n = off + 55 + (lb s : Int) := by simp [both, hb, h]
  rw [e, cellsOf_congr (fun i hi => (both_lt f n off s hi).symm), show off + 56 - 1 + (lb s : Int) = off + 55 + (lb s : Int) by omega]
theorem first_byte' (f : Nat → Int) (n : Nat) (off s : Int) (h : s < 56) : cellsOf f n ++ [.int .u8 (off + s)] = cellsOf (both f n off s) (n + 1) := by
  rw [cellsOf_succ]
  have e : both f n off s n = off + s := by simp [both, hb, h]
  rw [e, cellsOf_congr (fun i hi => (both_lt f n off s hi).symm)]
/-- and the next -/
theorem next_byte (f : Nat → Int) (n : Nat) (off s : Int) (j q : Nat) (h : j + q + 1 = lb s) :
    cellsOf (both f n off s) (n + 1 + j) ++ [.int .u8 (s / 2 ^ (8 * q) % 256)] = cellsOf (both f n off s) (n + 1 + j + 1) := by
  rw [cellsOf_succ]
  have e : both f n off s (n + 1 + j) = s / 2 ^ (8 * q) % 256 := by
    rw [show n + 1 + j = n + (j + 1) by omega, both_ge, pow_two]
    show sb s j = _
    unfold sb
    rw [show lb s - 1 - j = q by omega]
  rw [e]

set_option maxHeartbeats 1000000 in
theorem append_long (a : Option Addr) (n : Nat) (f : Nat → Int) (off s : Int) (ho : 0 ≤ off ∧ off ≤ 192) (h56 : ¬ s < 56) (h1 : s < 9223372036854775808) (w : World) (hm : n ≤ 1048576)
    (hn : a = none → n = 0) (hs : ∀ b, a = some b → ∀ j u, (cellsOf f n)[j]? = some u → w.cell? (b.add j) = some u) :
    Calls Try.prog 13 #[.slice a n n, .int .u8 off, .int .i64 s] w fun e w' => ∃ v', e = .returned v' ∧ w'.ownsRow (w.heap.size + 1) 5 1 v' (n + 1 + lb s) (cellsOf (both f n off s) (n + 1 + lb s)) ∧ Below w.heap.size w w' := by
  obtain ⟨i0, hi, hz0, hz1, hz2⟩ := info5'
  have hb := lb_bd s
  go_enter Try.func13, Try.ntmps13
  go_wp2_with (first | (go_at_call 15; refine (lengthBytes_any s (by omega) h1 _).mono ?_; rintro e w' ⟨rfl, rfl⟩) | (at_builtin; refine wpList_append_grows _ rfl (.tmp 20) (.tmp 27) 22 rfl 5 i0 (.int .u8 0) 1 1 Try.underlying22 hi hz0 hz1 hz2 rfl (by decide) a n n (cellsOf f n) rfl ?c0 ?c1 ?c2 ⟨w.heap.size, 0, none⟩ 1 1 [.int .u8 (off + 56 - 1 + (lb s : Int))] rfl rfl ?c3 ?c4 ?c5 ?c6 ?c7 ?_))
  case c0 => exact fun h => ⟨hn h, hn h⟩
  case c1 => rw [cellsOf_len]; omega
  case c2 => exact old_cells hs _
  case c3 => exact one_new w _
  case c4 => exact one_cell _
  case c5 => omega
  case c6 => unfold maxLen; omega
  case c7 => omega
  intro v1 w1 hown hgrow
  have hB1 : Below w.heap.size w w1 := ((Below.refl _ _).alloc (Nat.le_refl _) _).grown hgrow (by simp) (fun k h => by cases h)
  have hsz1 : w.heap.size + 1 ≤ w1.heap.size := by have := hgrow.size; simpa using this
  rw [first_byte f n off s (by omega)] at hown
  have hown1 : w1.ownsRow (w.heap.size + 1) 5 1 v1 (n + 1) (cellsOf (both f n off s) (n + 1)) := by simpa using hown
  clear hown hgrow hs hn
  go_wp2
  go_loopw [0, 8] (fun v i wr => ∃ j r : Nat, j + r = lb s ∧ i = .int .i64 ((r : Int) - 1) ∧ wr.ownsRow (w.heap.size + 1) 5 1 v (n + 1 + j) (cellsOf (both f n off s) (n + 1 + j)) ∧ w.heap.size + 1 ≤ wr.heap.size ∧ Below w.heap.size w wr) (fun _ i _ => (intOf i + 1).toNat)
  case atStart => exact ⟨0, lb s, by omega, rfl, hown1, hsz1, hB1⟩
  case round =>
    clear hown1 hsz1 hB1
    obtain ⟨j, r, hjr, rfl, hown, hsz, hB⟩ := hrel
    cases r with
    | zero =>
      go_wp2
      go_ret
      have e : j = lb s := by omega
      subst e
      exact ⟨_, rfl, hown, hB⟩
    | succ q =>
      have e1 : ((q + 1 : Nat) : Int) - 1 = (q : Int) := by omega
      rw [e1]
      clear e1
      have HJ : Hid (j + (q + 1) = lb s) := hjr
      have hq : q < 8 := by omega
      have hj : j < 8 := by omega
      clear hjr
      go_wp2_with (at_builtin; refine wpList_append_own _ rfl (.tmp 35) (.tmp 41) 22 rfl (w.heap.size + 1) 5 i0 (.int .u8 0) 1 1 Try.underlying22 hi hz0 hz1 hz2 rfl (by decide) _ _ _ rfl (hown.alloc _) ⟨wr.heap.size, 0, none⟩ 1 1 [.int .u8 (s / 2 ^ (8 * q) % 256)] rfl rfl ?d1 ?d2 ?d3 ?d4 ?d5 ?_)
      case d1 => exact one_new wr _
      case d2 => exact one_cell _
      case d3 => unfold maxLen; omega
      case d4 => omega
      case d5 => simp; omega
      intro v2 w2 hown2 hgrow2 _
      have hB2 : Below w.heap.size w w2 := (hB.alloc (by omega) _).grown hgrow2 (by simp; omega) (fun k h => by have := own_from hown k h; omega)
      have hsz2 : w.heap.size + 1 ≤ w2.heap.size := by have := hgrow2.size; simp at this; omega
      rw [next_byte f n off s j q (by have := HJ.out; omega)] at hown2
      clear hown hB hgrow2 hsz
      go_wp2
      go_roundw
      case rel => exact ⟨j + 1, q, by have := HJ.out; omega, rfl, hown2, hsz2, hB2⟩
      case measure => simp [intOf]

/-- a row that is owned and not empty: its address, its cells -/
theorem own_open {w : World} {base : Nat} {v : Value} {h : Nat → Int} {N : Nat} (hN : 0 < N) (ho : w.ownsRow base 5 1 v N (cellsOf h N)) :
    ∃ g cap, v = .slice (some ⟨g, 0, none⟩) N cap ∧ N ≤ cap ∧ cap ≤ maxLen ∧ ∀ i, i < N → w.cell? ⟨g, i, none⟩ = some (.int .u8 (h i)) := by
  have ho' := ho
  rcases ho.2 with ⟨_, h0⟩ | ⟨g, cap, cur, rfl, _, _, hle, hmx, _⟩
  · omega
  · refine ⟨g, cap, rfl, hle, hmx, fun i hi => ?_⟩
    rw [ho'.cellAt i (by omega), cellsOf_get h N i hi]

/-- appendHeader on a slice without spare room: the bytes that were there, then the header's, in a new block -/
theorem append_any (a : Option Addr) (n : Nat) (f : Nat → Int) (off s : Int) (ho : 0 ≤ off ∧ off ≤ 192) (h0 : 0 ≤ s) (h1 : s < 9223372036854775808) (w : World) (hm : n ≤ 1048576)
    (hn : a = none → n = 0) (hs : ∀ b, a = some b → ∀ j u, (cellsOf f n)[j]? = some u → w.cell? (b.add j) = some u) :
    Calls Try.prog 13 #[.slice a n n, .int .u8 off, .int .i64 s] w fun e w' => ∃ g cap, e = .returned (.slice (some ⟨g, 0, none⟩) (n + hl s) cap) ∧ n + hl s ≤ cap ∧ cap ≤ maxLen ∧
      (∀ i, i < n + hl s → w'.cell? ⟨g, i, none⟩ = some (.int .u8 (both f n off s i))) ∧ Below w.heap.size w w' := by
  by_cases h56 : s < 56
  · refine (append_short a n f off s ho h0 h56 w hm hn hs).mono ?_
    rintro e w' ⟨v', rfl, hown, hb⟩
    rw [first_byte' f n off s h56] at hown
    obtain ⟨g, cap, rfl, hle, hmx, hc⟩ := own_open (by omega) hown
    have e : hl s = 1 := by simp [hl, h56]
    rw [e]
    exact ⟨g, cap, rfl, hle, hmx, hc, hb⟩
  · refine (append_long a n f off s ho h56 h1 w hm hn hs).mono ?_
    rintro e w' ⟨v', rfl, hown, hb⟩
    obtain ⟨g, cap, rfl, hle, hmx, hc⟩ := own_open (by omega) hown
    have e : n + hl s = n + 1 + lb s := by simp [hl, h56]; omega
    rw [e]
    exact ⟨g, cap, rfl, hle, hmx, hc, hb⟩

theorem zzAppend_any (a : Option Addr) (n : Nat) (f : Nat → Int) (off s : Int) (ho : 0 ≤ off ∧ off ≤ 192) (h0 : 0 ≤ s) (h1 : s < 9223372036854775808) (w : World) (hm : n ≤ 1048576)
    (hn : a = none → n = 0) (hs : ∀ b, a = some b → ∀ j u, (cellsOf f n)[j]? = some u → w.cell? (b.add j) = some u) :
    Calls Try.prog 8 #[.slice a n n, .int .u8 off, .int .i64 s] w fun e w' => ∃ g cap, e = .returned (.slice (some ⟨g, 0, none⟩) (n + hl s) cap) ∧ n + hl s ≤ cap ∧ cap ≤ maxLen ∧
      (∀ i, i < n + hl s → w'.cell? ⟨g, i, none⟩ = some (.int .u8 (both f n off s i))) ∧ Below w.heap.size w w' := by
  go_enter Try.func8, Try.ntmps8
  go_wp2_with (go_at_call 13; refine (append_any a n f off s ho h0 h1 _ hm hn hs).mono ?_; rintro e w' ⟨g, cap, rfl, hle, hmx, hc, hb⟩)
  go_ret
  exact ⟨_, _, rfl, ‹_›, ‹_›, ‹_›, ‹_›⟩

/-- what the two laws hand to it: nil, or a row of the call's own -/
theorem own_cells {w : World} {g n : Nat} {f : Nat → Int} (h : Own w g n f) : ∀ b, some (⟨g, 0, none⟩ : Addr) = some b → ∀ j u, (cellsOf f n)[j]? = some u → w.cell? (b.add j) = some u := by
  intro b hb j u hu
  obtain rfl := Option.some.inj hb
  have hj : j < n := by
    have := (List.getElem?_eq_some_iff.1 hu).1
    rwa [cellsOf_len] at this
  rw [cellsOf_get f n j hj] at hu
  obtain rfl := Option.some.inj hu
  rw [Addr.add_lit, Nat.zero_add]
  exact h.cell j hj

end Go.Proofs.Qxb6001654a.Walks
