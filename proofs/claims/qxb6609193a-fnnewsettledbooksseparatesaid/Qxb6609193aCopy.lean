import Derived.Test.Qxb6609193aBooks
namespace Go.Proofs.Qxb6609193a
open Go.RowKit
set_option maxRecDepth 100000

/-- A slice of ints. -/
def InI (w : World) (a : Option Addr) (len : Nat) : Prop := len = 0 ∨ ∃ b off, a = some ⟨b, off, none⟩ ∧ ∀ i, i < len → ∃ z, w.cell? ⟨b, off + i, none⟩ = some (.int .i64 z)

/-- A block of ints. -/
def Ints (w : World) (N len : Nat) : Prop := ∃ c : Array Value, w.heap[N]? = some (.cells c 3 (0, 0)) ∧ ∀ i, i < len → ∃ z, c[i]? = some (.int .i64 z)

theorem Ints.set {w : World} {N len : Nat} (h : Ints w N len) (k : Nat) (z : Int) : Ints (w.setCell ⟨N, k, none⟩ (.int .i64 z)) N len := by
  obtain ⟨c, h1, h2⟩ := h
  refine ⟨_, block_set h1 _, fun i hi => ?_⟩
  obtain ⟨y, hy⟩ := h2 i hi
  by_cases e : k = i
  · subst e
    exact ⟨z, by rw [Array.getElem?_setIfInBounds_self_of_lt (Array.getElem?_eq_some_iff.1 hy).1]⟩
  · exact ⟨y, by rw [Array.getElem?_setIfInBounds_ne e]; exact hy⟩

set_option maxHeartbeats 1000000 in
theorem copy_calls (w : World) (a : Option Addr) (len cap : Nat) (h : InI w a len) (hn : a = none → len = 0) (hl : len ≤ 1048576) :
    Calls Try.prog 8 #[.slice a len cap] w fun e w' => ∃ a' c', e = .returned (.slice a' len c') ∧ InI w' a' len ∧ (a' = none → len = 0) ∧ Below w.heap.size w w' := by
  have heq := @Lib.run_eql_slice_nil Try.prog
  obtain ⟨i0, hi, hz0, hz1, hz2⟩ := info_parts info3
  cases a with
  | none =>
    have := hn rfl
    subst this
    go_enter Try.func8, Try.ntmps8
    go_wp2
    go_ret
    exact ⟨none, ⟨_, rfl⟩, Or.inl rfl, Below.refl _ _⟩
  | some x =>
    clear hn
    have HI : Hid (InI w (some x) len) := h
    clear h
    have hlI : (len : Int) ≤ 1048576 := by omega
    go_enter Try.func8, Try.ntmps8
    go_wp2_with (at_make; refine wpList_make_cap _ rfl _ _ 24 rfl 3 i0 (.int .i64 0) 1 Try.underlying24 hi hz0 hz1 .i64 .i64 _ _ len len rfl rfl (by simp) (by simp) (Nat.le_refl _) (by rw [hz2]; omega) (by unfold maxLen; omega) ?_)
    go_loopg [4] len (fun j i wr => ∃ k : Nat, k ≤ len ∧ i = .int .i64 k ∧ j = len - k ∧ Ints wr w.heap.size len ∧ Below w.heap.size w wr)
    case atStart =>
      exact ⟨0, Nat.zero_le _, rfl, rfl, ⟨_, new_block0 _ _ _ rfl, fun i h => ⟨0, (zrow_one (.int .i64 0) _ rfl).2 i (by omega)⟩⟩, (Below.refl _ _).alloc (Nat.le_refl _) _⟩
    case round =>
      obtain ⟨k, hk, rfl, hgk, hin, hbel⟩ := hrel
      by_cases hlt : k < len
      · rcases HI.out with h0 | ⟨b, off, hx, hc⟩
        · omega
        · cases hx
          obtain ⟨z, hz⟩ := hc k hlt
          have y0 : wr.cell? ⟨b, off + k, none⟩ = some (.int .i64 z) := by rw [hbel.cell (World.block_lt_of_cell? w ⟨b, off + k, none⟩ hz)]; exact hz
          obtain ⟨c, h1, h2⟩ := hin
          obtain ⟨u, hu⟩ := h2 k hlt
          have y1 := cell_of_block h1 hu
          have f1 : wr.frozen? ⟨w.heap.size, k, none⟩ = false := free_of_block h1
          have HC : Hid (Ints wr w.heap.size len ∧ Below w.heap.size w wr ∧ gk = len - k) := ⟨⟨c, h1, h2⟩, hbel, hgk⟩
          have hki : (k : Int) < len := by omega
          clear h1 h2 hu hbel hgk hc hz
          go_wp2_with fail
          go_roundg (len - (k + 1))
          case measure => have := HC.out.2.2; omega
          case rel => exact ⟨k + 1, by omega, by go_num, rfl, HC.out.1.set _ _, HC.out.2.1.setCell (Nat.le_refl _) _⟩
      · have HC : Hid (Ints wr w.heap.size len ∧ Below w.heap.size w wr) := ⟨hin, hbel⟩
        clear hin hbel hgk
        go_wp2
        go_ret
        obtain ⟨⟨c, h1, h2⟩, hbel⟩ := HC.out
        refine ⟨_, _, rfl, Or.inr ⟨w.heap.size, 0, rfl, fun i hi => ?_⟩, fun e => (by cases e), hbel⟩
        obtain ⟨z, hz⟩ := h2 i hi
        exact ⟨z, by rw [Nat.zero_add]; exact cell_of_block h1 hz⟩

set_option maxHeartbeats 400000 in
theorem bytes_calls (w : World) (v0 v1 : Value) (a : Option Addr) (len cap : Nat) :
    Calls Try.prog 7 #[v0, v1, .slice a len cap] w fun e w' => ∃ b, e = .returned (.bool b) ∧ w = w' ∧ (b = true → len ≤ 1048576) := by
  go_enter Try.func7, Try.ntmps7
  go_wp2
  all_goals go_ret
  all_goals refine ⟨_, rfl, rfl, ?_⟩
  all_goals intro h
  all_goals first | omega | cases h
end Go.Proofs.Qxb6609193a
