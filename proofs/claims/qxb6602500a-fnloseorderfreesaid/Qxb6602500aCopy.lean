import Derived.Test.Qxb6602500aNew
namespace Go.Proofs.Qxb6602500a
open Go.RowKit
set_option maxRecDepth 100000

/-- A slice of give-ups. -/
def InL (w : World) (a : Option Addr) (ls : List (Int × Int)) : Prop :=
  ls = [] ∨ ∃ b off, a = some ⟨b, off, none⟩ ∧ ∀ i (h : i < ls.length), w.cell? ⟨b, off + i * 2, none⟩ = some (.int .u64 (ls[i]).1) ∧ w.cell? ⟨b, off + i * 2 + 1, none⟩ = some (.int .u64 (ls[i]).2)

/-- A slice of waits: awaited origin, awaited number, origin, number. -/
def InW (w : World) (a : Option Addr) (ws : List (Int × Int × Int × Int)) : Prop :=
  ws = [] ∨ ∃ b off, a = some ⟨b, off, none⟩ ∧ ∀ i (h : i < ws.length), w.cell? ⟨b, off + i * 4, none⟩ = some (.int .i64 (ws[i]).1) ∧ w.cell? ⟨b, off + i * 4 + 1, none⟩ = some (.int .u64 (ws[i]).2.1) ∧
    w.cell? ⟨b, off + i * 4 + 2, none⟩ = some (.int .i64 (ws[i]).2.2.1) ∧ w.cell? ⟨b, off + i * 4 + 3, none⟩ = some (.int .u64 (ws[i]).2.2.2)

theorem InL.below {w w' : World} {a ls} (h : InL w a ls) (hb : Below w.heap.size w w') : InL w' a ls := by
  rcases h with h | ⟨b, off, ha, h⟩
  · exact Or.inl h
  · exact Or.inr ⟨b, off, ha, fun i hi => ⟨cell_later hb (h i hi).1, cell_later hb (h i hi).2⟩⟩
theorem InW.below {w w' : World} {a ws} (h : InW w a ws) (hb : Below w.heap.size w w') : InW w' a ws := by
  rcases h with h | ⟨b, off, ha, h⟩
  · exact Or.inl h
  · exact Or.inr ⟨b, off, ha, fun i hi => ⟨cell_later hb (h i hi).1, cell_later hb (h i hi).2.1, cell_later hb (h i hi).2.2.1, cell_later hb (h i hi).2.2.2⟩⟩

theorem info67 : (Try.prog.info? 67).map (fun i => (i.zero, i.size, i.bytes)) = some (some (.agg #[.int .u64 0, .int .u64 0]), 2, 16) := by kernel_rfl
theorem info34 : (Try.prog.info? 34).map (fun i => (i.zero, i.size, i.bytes)) = some (some (.agg #[.int .i64 0, .int .u64 0, .int .i64 0, .int .u64 0]), 4, 32) := by kernel_rfl
theorem zrow_size (z : Value) (n : Nat) : (zrow z n).size = n := size_madeCells _ _

/-- The copy under way: block N holds the first k. -/
def CpL (w : World) (N : Nat) (ls : List (Int × Int)) (k : Nat) : Prop :=
  ∃ c : Array Value, w.heap[N]? = some (.cells c 67 (0, 0)) ∧ c.size = ls.length * 2 ∧ ∀ i (h : i < ls.length), i < k → c[i * 2]? = some (.int .u64 (ls[i]).1) ∧ c[i * 2 + 1]? = some (.int .u64 (ls[i]).2)

theorem CpL.step {w : World} {N : Nat} {ls : List (Int × Int)} {k : Nat} (h : CpL w N ls k) (hk : k < ls.length) : CpL ((w.setCell ⟨N, k * 2, none⟩ (.int .u64 (ls[k]).1)).setCell ⟨N, k * 2 + 1, none⟩ (.int .u64 (ls[k]).2)) N ls (k + 1) := by
  obtain ⟨c, h1, h2, h3⟩ := h
  refine ⟨_, block_set (block_set h1 _) _, by simp [h2], fun i hi hik => ?_⟩
  by_cases e : i = k
  · subst e
    refine ⟨?_, ?_⟩
    · rw [Array.getElem?_setIfInBounds_ne (by omega), Array.getElem?_setIfInBounds_self_of_lt (by omega)]
    · rw [Array.getElem?_setIfInBounds_self_of_lt (by simp; omega)]
  · refine ⟨?_, ?_⟩
    · rw [Array.getElem?_setIfInBounds_ne (by omega), Array.getElem?_setIfInBounds_ne (by omega)]
      exact (h3 i hi (by omega)).1
    · rw [Array.getElem?_setIfInBounds_ne (by omega), Array.getElem?_setIfInBounds_ne (by omega)]
      exact (h3 i hi (by omega)).2

theorem some_at {c : Array Value} {j : Nat} (h : j < c.size) : ∃ v, c[j]? = some v := ⟨_, Array.getElem?_eq_getElem h⟩

set_option maxHeartbeats 1000000 in
theorem copyLost_calls (w : World) (a : Option Addr) (cap : Nat) (ls : List (Int × Int)) (h : InL w a ls) (hna : a = none → ls = []) (hl : ls.length ≤ 1048576) :
    Calls Try.prog 10 #[.slice a ls.length cap] w fun e w' => ∃ a' cap', e = .returned (.slice a' ls.length cap') ∧ InL w' a' ls ∧ Below w.heap.size w w' := by
  have heq := @Lib.run_eql_slice_nil Try.prog
  cases a with
  | none =>
    obtain rfl := hna rfl
    clear h
    go_enter Try.func10, Try.ntmps10
    go_wp2
    go_ret
    exact ⟨none, ⟨_, rfl⟩, Or.inl rfl, Below.refl _ _⟩
  | some x =>
    obtain ⟨i0, hi, hz0, hz1, hz2⟩ := info_parts info67
    rcases h with rfl | ⟨b, off, hx, h⟩
    · go_enter Try.func10, Try.ntmps10
      go_wp2_with (at_make; refine wpList_make_exact _ rfl _ _ 22 rfl 67 i0 (.agg #[.int .u64 0, .int .u64 0]) 2 Try.underlying22 hi hz0 hz1 .i64 .i64 _ _ 0 rfl rfl (by simp) (by simp) (by omega) (by unfold maxLen; omega) ?_)
      refine wp_loop_rounds 1 ?_
      rw [rounds_succ]
      go_wp2
      go_ret
      exact ⟨_, _, rfl, Or.inl rfl, (Below.refl _ _).alloc (Nat.le_refl _) _⟩
    · cases hx
      have H : Hid (∀ i (h : i < ls.length), w.cell? ⟨b, off + i * 2, none⟩ = some (.int .u64 (ls[i]).1) ∧ w.cell? ⟨b, off + i * 2 + 1, none⟩ = some (.int .u64 (ls[i]).2)) := h
      clear h
      go_enter Try.func10, Try.ntmps10
      go_wp2_with (at_make; refine wpList_make_exact _ rfl _ _ 22 rfl 67 i0 (.agg #[.int .u64 0, .int .u64 0]) 2 Try.underlying22 hi hz0 hz1 .i64 .i64 _ _ ls.length rfl rfl (by simp) (by simp) (by rw [hz2]; omega) (by unfold maxLen; omega) ?_)
      go_loopg [4] ls.length (fun j i wr => ∃ k : Nat, k ≤ ls.length ∧ i = .int .i64 k ∧ j = ls.length - k ∧ CpL wr w.heap.size ls k ∧ Below w.heap.size w wr)
      case atStart =>
        exact ⟨0, Nat.zero_le _, rfl, rfl, ⟨_, new_block0 _ _ _ rfl, zrow_size _ _, fun i _ h0 => absurd h0 (by omega)⟩, (Below.refl _ _).alloc (Nat.le_refl _) _⟩
      case round =>
        obtain ⟨k, hk, rfl, hgk, hcp, hbel⟩ := hrel
        by_cases hlt : k < ls.length
        · obtain ⟨c, h1, h2, h3⟩ := hcp
          obtain ⟨x0, x1⟩ := H.out k hlt
          have y0 := cell_later hbel x0
          have y1 := cell_later hbel x1
          obtain ⟨v0, hv0⟩ := some_at (c := c) (j := k * 2) (by omega)
          obtain ⟨v1, hv1⟩ := some_at (c := c) (j := k * 2 + 1) (by omega)
          have z0 := cell_of_block h1 hv0
          have z1 := cell_of_block h1 hv1
          have f0 : wr.frozen? ⟨w.heap.size, k * 2, none⟩ = false := free_of_block h1
          have f1 : wr.frozen? ⟨w.heap.size, k * 2 + 1, none⟩ = false := free_of_block h1
          have hki : (k : Int) < ls.length := by omega
          have HC : Hid (CpL wr w.heap.size ls k ∧ Below w.heap.size w wr ∧ gk = ls.length - k) := ⟨⟨c, h1, h2, h3⟩, hbel, hgk⟩
          clear h1 h2 h3 hv0 hv1 hbel hgk x0 x1
          go_wp2
          go_roundg (ls.length - (k + 1))
          case measure => have := HC.out.2.2; omega
          case rel => exact ⟨k + 1, by omega, by go_num, rfl, HC.out.1.step hlt, (HC.out.2.1.setCell (Nat.le_refl _) _).setCell (Nat.le_refl _) _⟩
        · have HC : Hid (CpL wr w.heap.size ls k ∧ Below w.heap.size w wr) := ⟨hcp, hbel⟩
          clear hcp hbel hgk
          go_wp2
          go_ret
          obtain ⟨⟨c, h1, h2, h3⟩, hbel⟩ := HC.out
          refine ⟨_, _, rfl, Or.inr ⟨w.heap.size, 0, rfl, fun i hi => ?_⟩, hbel⟩
          simp only [Nat.zero_add]
          exact ⟨cell_of_block h1 (h3 i hi (by omega)).1, cell_of_block h1 (h3 i hi (by omega)).2⟩
/-- The copy of waits under way. -/
def CpW (w : World) (N : Nat) (ls : List (Int × Int × Int × Int)) (k : Nat) : Prop :=
  ∃ c : Array Value, w.heap[N]? = some (.cells c 34 (0, 0)) ∧ c.size = ls.length * 4 ∧ ∀ i (h : i < ls.length), i < k → c[i * 4]? = some (.int .i64 (ls[i]).1) ∧ c[i * 4 + 1]? = some (.int .u64 (ls[i]).2.1) ∧ c[i * 4 + 2]? = some (.int .i64 (ls[i]).2.2.1) ∧ c[i * 4 + 3]? = some (.int .u64 (ls[i]).2.2.2)

theorem CpW.step {w : World} {N : Nat} {ls : List (Int × Int × Int × Int)} {k : Nat} (h : CpW w N ls k) (hk : k < ls.length) :
    CpW ((((w.setCell ⟨N, k * 4, none⟩ (.int .i64 (ls[k]).1)).setCell ⟨N, k * 4 + 1, none⟩ (.int .u64 (ls[k]).2.1)).setCell ⟨N, k * 4 + 2, none⟩ (.int .i64 (ls[k]).2.2.1)).setCell ⟨N, k * 4 + 3, none⟩ (.int .u64 (ls[k]).2.2.2)) N ls (k + 1) := by
  obtain ⟨c, h1, h2, h3⟩ := h
  refine ⟨_, block_set (block_set (block_set (block_set h1 _) _) _) _, by simp [h2], fun i hi hik => ?_⟩
  by_cases e : i = k
  · subst e
    refine ⟨?_, ?_, ?_, ?_⟩
    · rw [Array.getElem?_setIfInBounds_ne (by omega), Array.getElem?_setIfInBounds_ne (by omega), Array.getElem?_setIfInBounds_ne (by omega), Array.getElem?_setIfInBounds_self_of_lt (by omega)]
    · rw [Array.getElem?_setIfInBounds_ne (by omega), Array.getElem?_setIfInBounds_ne (by omega), Array.getElem?_setIfInBounds_self_of_lt (by simp; omega)]
    · rw [Array.getElem?_setIfInBounds_ne (by omega), Array.getElem?_setIfInBounds_self_of_lt (by simp; omega)]
    · rw [Array.getElem?_setIfInBounds_self_of_lt (by simp; omega)]
  · have o : ∀ j, j < 4 → ((((c.setIfInBounds (k * 4) (.int .i64 (ls[k]).1)).setIfInBounds (k * 4 + 1) (.int .u64 (ls[k]).2.1)).setIfInBounds (k * 4 + 2) (.int .i64 (ls[k]).2.2.1)).setIfInBounds (k * 4 + 3) (.int .u64 (ls[k]).2.2.2))[i * 4 + j]? = c[i * 4 + j]? := by
      intro j hj
      rw [Array.getElem?_setIfInBounds_ne (by omega), Array.getElem?_setIfInBounds_ne (by omega), Array.getElem?_setIfInBounds_ne (by omega), Array.getElem?_setIfInBounds_ne (by omega)]
    have h4 := h3 i hi (by omega)
    exact ⟨(o 0 (by omega)).trans h4.1, (o 1 (by omega)).trans h4.2.1, (o 2 (by omega)).trans h4.2.2.1, (o 3 (by omega)).trans h4.2.2.2⟩

set_option maxHeartbeats 1000000 in
theorem copyWaits_calls (w : World) (a : Option Addr) (cap : Nat) (ls : List (Int × Int × Int × Int)) (h : InW w a ls) (hna : a = none → ls = []) (hl : ls.length ≤ 1048576) :
    Calls Try.prog 11 #[.slice a ls.length cap] w fun e w' => ∃ a' cap', e = .returned (.slice a' ls.length cap') ∧ InW w' a' ls ∧ Below w.heap.size w w' := by
  have heq := @Lib.run_eql_slice_nil Try.prog
  cases a with
  | none =>
    obtain rfl := hna rfl
    clear h
    go_enter Try.func11, Try.ntmps11
    go_wp2
    go_ret
    exact ⟨none, ⟨_, rfl⟩, Or.inl rfl, Below.refl _ _⟩
  | some x =>
    obtain ⟨i0, hi, hz0, hz1, hz2⟩ := info_parts info34
    rcases h with rfl | ⟨b, off, hx, h⟩
    · go_enter Try.func11, Try.ntmps11
      go_wp2_with (at_make; refine wpList_make_exact _ rfl _ _ 23 rfl 34 i0 (.agg #[.int .i64 0, .int .u64 0, .int .i64 0, .int .u64 0]) 4 Try.underlying23 hi hz0 hz1 .i64 .i64 _ _ 0 rfl rfl (by simp) (by simp) (by omega) (by unfold maxLen; omega) ?_)
      refine wp_loop_rounds 1 ?_
      rw [rounds_succ]
      go_wp2
      go_ret
      exact ⟨_, _, rfl, Or.inl rfl, (Below.refl _ _).alloc (Nat.le_refl _) _⟩
    · cases hx
      have H : Hid (∀ i (h : i < ls.length), w.cell? ⟨b, off + i * 4, none⟩ = some (.int .i64 (ls[i]).1) ∧ w.cell? ⟨b, off + i * 4 + 1, none⟩ = some (.int .u64 (ls[i]).2.1) ∧ w.cell? ⟨b, off + i * 4 + 2, none⟩ = some (.int .i64 (ls[i]).2.2.1) ∧ w.cell? ⟨b, off + i * 4 + 3, none⟩ = some (.int .u64 (ls[i]).2.2.2)) := h
      clear h
      go_enter Try.func11, Try.ntmps11
      go_wp2_with (at_make; refine wpList_make_exact _ rfl _ _ 23 rfl 34 i0 (.agg #[.int .i64 0, .int .u64 0, .int .i64 0, .int .u64 0]) 4 Try.underlying23 hi hz0 hz1 .i64 .i64 _ _ ls.length rfl rfl (by simp) (by simp) (by rw [hz2]; omega) (by unfold maxLen; omega) ?_)
      go_loopg [4] ls.length (fun j i wr => ∃ k : Nat, k ≤ ls.length ∧ i = .int .i64 k ∧ j = ls.length - k ∧ CpW wr w.heap.size ls k ∧ Below w.heap.size w wr)
      case atStart =>
        exact ⟨0, Nat.zero_le _, rfl, rfl, ⟨_, new_block0 _ _ _ rfl, zrow_size _ _, fun i _ h0 => absurd h0 (by omega)⟩, (Below.refl _ _).alloc (Nat.le_refl _) _⟩
      case round =>
        obtain ⟨k, hk, rfl, hgk, hcp, hbel⟩ := hrel
        by_cases hlt : k < ls.length
        · obtain ⟨c, h1, h2, h3⟩ := hcp
          obtain ⟨x0, x1, x2, x3⟩ := H.out k hlt
          have y0 := cell_later hbel x0
          have y1 := cell_later hbel x1
          have y2 := cell_later hbel x2
          have y3 := cell_later hbel x3
          obtain ⟨v0, hv0⟩ := some_at (c := c) (j := k * 4) (by omega)
          obtain ⟨v1, hv1⟩ := some_at (c := c) (j := k * 4 + 1) (by omega)
          obtain ⟨v2, hv2⟩ := some_at (c := c) (j := k * 4 + 2) (by omega)
          obtain ⟨v3, hv3⟩ := some_at (c := c) (j := k * 4 + 3) (by omega)
          have z0 := cell_of_block h1 hv0
          have z1 := cell_of_block h1 hv1
          have z2 := cell_of_block h1 hv2
          have z3 := cell_of_block h1 hv3
          have f0 : wr.frozen? ⟨w.heap.size, k * 4, none⟩ = false := free_of_block h1
          have f1 : wr.frozen? ⟨w.heap.size, k * 4 + 1, none⟩ = false := free_of_block h1
          have f2 : wr.frozen? ⟨w.heap.size, k * 4 + 2, none⟩ = false := free_of_block h1
          have f3 : wr.frozen? ⟨w.heap.size, k * 4 + 3, none⟩ = false := free_of_block h1
          have hki : (k : Int) < ls.length := by omega
          have HC : Hid (CpW wr w.heap.size ls k ∧ Below w.heap.size w wr ∧ gk = ls.length - k) := ⟨⟨c, h1, h2, h3⟩, hbel, hgk⟩
          clear h1 h2 h3 hv0 hv1 hv2 hv3 hbel hgk x0 x1 x2 x3
          go_wp2
          go_roundg (ls.length - (k + 1))
          case measure => have := HC.out.2.2; omega
          case rel => exact ⟨k + 1, by omega, by go_num, rfl, HC.out.1.step hlt, (((HC.out.2.1.setCell (Nat.le_refl _) _).setCell (Nat.le_refl _) _).setCell (Nat.le_refl _) _).setCell (Nat.le_refl _) _⟩
        · have HC : Hid (CpW wr w.heap.size ls k ∧ Below w.heap.size w wr) := ⟨hcp, hbel⟩
          clear hcp hbel hgk
          go_wp2
          go_ret
          obtain ⟨⟨c, h1, h2, h3⟩, hbel⟩ := HC.out
          refine ⟨_, _, rfl, Or.inr ⟨w.heap.size, 0, rfl, fun i hi => ?_⟩, hbel⟩
          simp only [Nat.zero_add]
          have h4 := h3 i hi (by omega)
          exact ⟨cell_of_block h1 h4.1, cell_of_block h1 h4.2.1, cell_of_block h1 h4.2.2.1, cell_of_block h1 h4.2.2.2⟩
end Go.Proofs.Qxb6602500a
