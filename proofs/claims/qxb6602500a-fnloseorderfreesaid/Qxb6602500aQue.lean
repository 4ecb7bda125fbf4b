import Derived.Test.Qxb6602500aKeys
namespace Go.Proofs.Qxb6602500a
open Go.RowKit

/-- The queue's own cells. -/
def QCells (w : World) (q mb ab nb : Nat) : Prop :=
  ∃ c : Array Value, w.heap[q]? = some (.cells c 91 (0, 0)) ∧ c[6]? = some (.map (some mb)) ∧ c[7]? = some (.slice (some ⟨ab, 0, none⟩) nb nb)

theorem QCells.cells {w q mb ab nb} (h : QCells w q mb ab nb) : w.cell? ⟨q, 6, none⟩ = some (.map (some mb)) ∧ w.cell? ⟨q, 7, none⟩ = some (.slice (some ⟨ab, 0, none⟩) nb nb) ∧ q < w.heap.size := by
  obtain ⟨c, h1, h2, h3⟩ := h
  exact ⟨cell_of_block h1 h2, cell_of_block h1 h3, lt_of_heap h1⟩

theorem keepB {n : Nat} {W1 wp w' : World} (hb : Below wp.heap.size wp w') (h : Below n W1 wp) (hn : n ≤ W1.heap.size) : Below n W1 w' := h.trans (hb.mono (Nat.le_trans hn h.size))

theorem Lost.below {w w' ab nb sub L} (h : Lost w ab nb sub L) (hb : Below w.heap.size w w') : Lost w' ab nb sub L := h.kept (fun b hb' => hb.block b (h.lt hb'))
theorem Lost.belowN {w w' ab nb sub L n} (h : Lost w ab nb sub L) (hn : w.heap.size ≤ n) (hb : Below n w w') : Lost w' ab nb sub L := h.kept (fun b hb' => hb.block b (Nat.lt_of_lt_of_le (h.lt hb') hn))

set_option maxHeartbeats 400000 in
theorem isLost_calls {w q mb ab nb sub L} (hq : QCells w q mb ab nb) (h : Lost w ab nb sub L) (o : Nat) (s : Int) (ho : o < 32 * nb) (hnb : nb ≤ 1000000) :
    Calls Try.prog 49 #[.pointer (some ⟨q, 0, none⟩), .agg #[.int .i64 o, .int .u64 s]] w fun e w' => e = .returned (.bool (cov L (o, s))) ∧ Below w.heap.size w w' := by
  obtain ⟨_, hc7, hlq⟩ := hq.cells
  obtain ⟨hlq1, hlq2, hlq3⟩ := lts hlq
  have HS : Hid (∀ w', Below (w.heap.size + 1) (w.alloc (.cells #[.int .i64 o, .int .u64 s] 73)) w' → (Below (w.heap.size + 1) (w.alloc (.cells #[.int .i64 o, .int .u64 s] 73)) w' ∧ w'.cell? ⟨q, 7, none⟩ = some (.slice (some ⟨ab, 0, none⟩) nb nb) ∧ w'.cell? ⟨w.heap.size, 0, none⟩ = some (.int .i64 o) ∧ w'.cell? ⟨w.heap.size, 1, none⟩ = some (.int .u64 s))) := by
    intro w' hb
    refine ⟨hb, ?_, ?_, ?_⟩
    · rw [hb.cell (by simp; omega)]; go_simp
    · rw [hb.cell (by simp)]; go_simp
    · rw [hb.cell (by simp)]; go_simp
  have HL : Hid (∀ w', Below (w.heap.size + 1) (w.alloc (.cells #[.int .i64 o, .int .u64 s] 73)) w' → Lost w' ab nb sub L) := fun w' hb => (h.below ((Below.refl _ _).alloc (Nat.le_refl _) _)).belowN (by simp) hb
  have HN : Hid (w.heap.size + 1 ≤ (w.alloc (.cells #[.int .i64 o, .int .u64 s] 73)).heap.size) := by unfold Hid; simp
  clear h
  go_enter Try.func49, Try.ntmps49
  go_wp2
  go_region_held3 (fun w' => Below (w.heap.size + 1) (w.alloc (.cells #[.int .i64 o, .int .u64 s] 73)) w' ∧ w'.cell? ⟨q, 7, none⟩ = some (.slice (some ⟨ab, 0, none⟩) nb nb) ∧ w'.cell? ⟨w.heap.size, 0, none⟩ = some (.int .i64 o) ∧ w'.cell? ⟨w.heap.size, 1, none⟩ = some (.int .u64 s))
    (first | exact HS.out _ (Below.refl _ _).drew | exact HS.out _ (keepB hb (And.left ‹Below _ _ _ ∧ _›) HN.out))
    (first | (go_at_call 48; refine ((HL.out _ (And.left ‹Below _ _ _ ∧ _›)).at_calls nb o ho hnb).mono ?_; rintro e w' ⟨rfl, hb⟩) | (go_at_call 53; refine (has_any _ _ _ _).mono ?_; rintro e w' ⟨rfl, hb⟩))
  go_wp2
  go_ret
  exact ⟨rfl, ((Below.refl _ _).alloc (Nat.le_refl _) _).trans ((And.left ‹Below _ _ _ ∧ _›).mono (by omega))⟩

set_option maxHeartbeats 400000 in
theorem lostAt_calls {w q mb ab nb sub L} (hq : QCells w q mb ab nb) (h : Lost w ab nb sub L) (p : Nat) (hp : p < 32 * nb) (hnb : nb ≤ 1000000) :
    Calls Try.prog 19 #[.pointer (some ⟨q, 0, none⟩), .int .i64 p] w fun e w' => e = .returned (.tuple #[.int .u64 (L p).1, .int .u64 (L p).2]) ∧ Below w.heap.size w w' := by
  obtain ⟨_, hc7, hlq⟩ := hq.cells
  go_enter Try.func19, Try.ntmps19
  go_wp2_with (go_at_call 48; refine (h.at_calls nb p hp hnb).mono ?_; rintro e w' ⟨rfl, hb⟩)
  go_region
  all_goals go_wp2
  all_goals go_ret2
  all_goals exact ⟨rfl, (((hb.alloc hb.size _)).drew)⟩

set_option maxHeartbeats 400000 in
theorem setLost_calls {w q mb ab nb sub L} (hq : QCells w q mb ab nb) (h : Lost w ab nb sub L) (p : Nat) (f l : Int) (hp : p < 32 * nb) (hnb : nb ≤ 1000000) :
    Calls Try.prog 39 #[.pointer (some ⟨q, 0, none⟩), .int .i64 p, .int .u64 f, .int .u64 l] w fun e w' => e = .returned (.tuple #[]) ∧
      ∃ sub', Lost w' ab nb sub' (upd L p (f, l)) ∧ (∀ i s, i < nb → sub' i = some s → sub i = some s ∨ w.heap.size ≤ s) ∧ Fr (lostOwn ab nb sub) w w' := by
  obtain ⟨_, hc7, hlq⟩ := hq.cells
  go_enter Try.func39, Try.ntmps39
  go_wp2_with (go_at_call 52; refine (h.set_calls nb p f l hp hnb).mono ?_; rintro e w' ⟨rfl, hb⟩)
  go_end0
  exact ⟨rfl, hb⟩
end Go.Proofs.Qxb6602500a
