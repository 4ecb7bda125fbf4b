import Derived.Test.Qxb6609193aSett
namespace Go.Proofs.Qxb6609193a
open Go.RowKit
set_option maxRecDepth 100000

/-- A block of n zeros of kind t. -/
def Zeros (w : World) (b : Nat) (t : TypeId) (n : Nat) : Prop := ∃ c : Array Value, w.heap[b]? = some (.cells c t (0, 0)) ∧ ∀ i, i < n → c[i]? = some (.int .i64 0)

theorem Zeros.later {w w' : World} {b n : Nat} {t : TypeId} (h : Zeros w b t n) (hb : Below w.heap.size w w') : Zeros w' b t n := by
  obtain ⟨c, h1, h2⟩ := h
  exact ⟨c, (hb.block _ (lt_of_heap h1)).trans h1, h2⟩
theorem Zeros.at {w : World} {b n : Nat} {t : TypeId} (h : Zeros w b t n) (i : Nat) (hi : i < n) : w.cell? ⟨b, i, none⟩ = some (.int .i64 0) := by
  obtain ⟨c, h1, h2⟩ := h
  exact cell_of_block h1 (h2 i hi)
theorem zeros_made (w : World) (t : TypeId) (n : Nat) : Zeros (w.alloc (.cells (zrow (.int .i64 0) (n * 1)) t)) w.heap.size t n :=
  ⟨_, new_block0 _ _ _ rfl, fun i h => (zrow_one (.int .i64 0) _ rfl).2 i (by omega)⟩

/-- What a law reads of settled books, as a value. -/
def stV (pl co sh ex mem : Int) (b1 b2 n : Nat) : Value := .agg #[.int .i64 pl, .int .i64 co, .int .i64 sh, .int .i64 0, .int .i64 ex, .int .i64 0, .int .i64 0, .int .i64 mem, .slice (some ⟨b1, 0, none⟩) n n, .slice (some ⟨b2, 0, none⟩) n n]

theorem two_zeros (w : World) (A : Obj) (t1 t2 : TypeId) (n : Nat) :
    Zeros (((w.alloc A).alloc (.cells (zrow (.int .i64 0) n) t1)).alloc (.cells (zrow (.int .i64 0) n) t2)).drew (w.heap.size + 1) t1 n ∧ Zeros (((w.alloc A).alloc (.cells (zrow (.int .i64 0) n) t1)).alloc (.cells (zrow (.int .i64 0) n) t2)).drew (w.heap.size + 1 + 1) t2 n ∧
      Below w.heap.size w (((w.alloc A).alloc (.cells (zrow (.int .i64 0) n) t1)).alloc (.cells (zrow (.int .i64 0) n) t2)).drew := by
  refine ⟨⟨_, (Below.heap_alloc _ _ _ (by simp)).trans (new_block0 _ _ _ (by simp)), (zrow_one (.int .i64 0) _ rfl).2⟩, ⟨_, new_block0 _ _ _ (by simp), (zrow_one (.int .i64 0) _ rfl).2⟩, ?_⟩
  exact ((((Below.refl _ _).alloc (Nat.le_refl _) _).alloc (by simp) _).alloc (by simp; omega) _).drew

set_option maxHeartbeats 2000000 in
theorem fresh_calls (w : World) (n : Nat) (mem : Int) (hn : n ≤ 65536) :
    Calls Try.prog 12 #[.int .i64 n, .int .i64 mem] w fun e w' => ∃ b1 b2, e = .returned (stV 0 n n 0 mem b1 b2 n) ∧ Zeros w' b1 2 n ∧ Zeros w' b2 3 n ∧ Below w.heap.size w w' := by
  have m1 := make_run Try.underlying44 info2 n (by omega)
  have m2 := make_run Try.underlying24 info3 n (by omega)
  go_enter Try.func12, Try.ntmps12
  go_wp2_with fail
  go_region
  · go_wp2
    obtain ⟨z1, z2, z3⟩ := two_zeros w (.cells #[.int .i64 0, .int .i64 n, .int .i64 n, .int .i64 0, .int .i64 0, .int .i64 0, .int .i64 0, .int .i64 mem, .slice (some ⟨w.heap.size + 1, 0, none⟩) n n, .slice (some ⟨w.heap.size + 1 + 1, 0, none⟩) n n] 46) 2 3 n
    exact bodyPost_ret (v := stV 0 n n 0 mem (w.heap.size + 1) (w.heap.size + 1 + 1) n) (by simp [results, Try.results12, go_sem, stV]) rfl ⟨_, _, rfl, z1, z2, z3⟩
  · go_wp2
    obtain ⟨z1, z2, z3⟩ := two_zeros w (.cells #[.int .i64 0, .int .i64 n, .int .i64 n, .int .i64 0, .int .i64 0, .int .i64 0, .int .i64 0, .int .i64 mem, .slice (some ⟨w.heap.size + 1 + 1, 0, none⟩) n n, .slice (some ⟨w.heap.size + 1, 0, none⟩) n n] 46) 3 2 n
    exact bodyPost_ret (v := stV 0 n n 0 mem (w.heap.size + 1 + 1) (w.heap.size + 1) n) (by simp [results, Try.results12, go_sem, stV]) rfl ⟨_, _, rfl, z2, z1, z3⟩

/-! ### sameState -/

set_option maxHeartbeats 2000000 in
theorem same_calls (w : World) (pl co sh ex mem : Int) (b1 b2 d1 d2 n : Nat) (hn : n ≤ 65536) (z1 : Zeros w b1 2 n) (z2 : Zeros w b2 3 n) (y1 : Zeros w d1 2 n) (y2 : Zeros w d2 3 n) :
    Calls Try.prog 13 #[stV pl co sh ex mem b1 b2 n, stV pl co sh ex mem d1 d2 n] w fun e w' => e = .returned (.bool true) ∧ Below w.heap.size w w' := by
  have HZ : Hid (∀ i, i < n → w.cell? ⟨b1, i, none⟩ = some (.int .i64 0) ∧ w.cell? ⟨d1, i, none⟩ = some (.int .i64 0) ∧ w.cell? ⟨b2, i, none⟩ = some (.int .i64 0) ∧ w.cell? ⟨d2, i, none⟩ = some (.int .i64 0)) := fun i hi => ⟨z1.at i hi, y1.at i hi, z2.at i hi, y2.at i hi⟩
  clear z1 z2 y1 y2
  unfold stV
  go_enter Try.func13, Try.ntmps13
  go_wp2_with fail
  have x8 : ((w.alloc (.cells #[.int .i64 pl, .int .i64 co, .int .i64 sh, .int .i64 0, .int .i64 ex, .int .i64 0, .int .i64 0, .int .i64 mem, .slice (some ⟨b1, 0, none⟩) n n, .slice (some ⟨b2, 0, none⟩) n n] 46)).alloc (.cells #[.int .i64 pl, .int .i64 co, .int .i64 sh, .int .i64 0, .int .i64 ex, .int .i64 0, .int .i64 0, .int .i64 mem, .slice (some ⟨d1, 0, none⟩) n n, .slice (some ⟨d2, 0, none⟩) n n] 46)).cell? ⟨w.heap.size, 8, none⟩ = some (.slice (some ⟨b1, 0, none⟩) n n) := by go_simp
  have x9 : ((w.alloc (.cells #[.int .i64 pl, .int .i64 co, .int .i64 sh, .int .i64 0, .int .i64 ex, .int .i64 0, .int .i64 0, .int .i64 mem, .slice (some ⟨b1, 0, none⟩) n n, .slice (some ⟨b2, 0, none⟩) n n] 46)).alloc (.cells #[.int .i64 pl, .int .i64 co, .int .i64 sh, .int .i64 0, .int .i64 ex, .int .i64 0, .int .i64 0, .int .i64 mem, .slice (some ⟨d1, 0, none⟩) n n, .slice (some ⟨d2, 0, none⟩) n n] 46)).cell? ⟨w.heap.size, 9, none⟩ = some (.slice (some ⟨b2, 0, none⟩) n n) := by go_simp
  have y8 : ((w.alloc (.cells #[.int .i64 pl, .int .i64 co, .int .i64 sh, .int .i64 0, .int .i64 ex, .int .i64 0, .int .i64 0, .int .i64 mem, .slice (some ⟨b1, 0, none⟩) n n, .slice (some ⟨b2, 0, none⟩) n n] 46)).alloc (.cells #[.int .i64 pl, .int .i64 co, .int .i64 sh, .int .i64 0, .int .i64 ex, .int .i64 0, .int .i64 0, .int .i64 mem, .slice (some ⟨d1, 0, none⟩) n n, .slice (some ⟨d2, 0, none⟩) n n] 46)).cell? ⟨w.heap.size + 1, 8, none⟩ = some (.slice (some ⟨d1, 0, none⟩) n n) := by go_simp
  have y9 : ((w.alloc (.cells #[.int .i64 pl, .int .i64 co, .int .i64 sh, .int .i64 0, .int .i64 ex, .int .i64 0, .int .i64 0, .int .i64 mem, .slice (some ⟨b1, 0, none⟩) n n, .slice (some ⟨b2, 0, none⟩) n n] 46)).alloc (.cells #[.int .i64 pl, .int .i64 co, .int .i64 sh, .int .i64 0, .int .i64 ex, .int .i64 0, .int .i64 0, .int .i64 mem, .slice (some ⟨d1, 0, none⟩) n n, .slice (some ⟨d2, 0, none⟩) n n] 46)).cell? ⟨w.heap.size + 1, 9, none⟩ = some (.slice (some ⟨d2, 0, none⟩) n n) := by go_simp
  have HB : Hid (Below w.heap.size w ((w.alloc (.cells #[.int .i64 pl, .int .i64 co, .int .i64 sh, .int .i64 0, .int .i64 ex, .int .i64 0, .int .i64 0, .int .i64 mem, .slice (some ⟨b1, 0, none⟩) n n, .slice (some ⟨b2, 0, none⟩) n n] 46)).alloc (.cells #[.int .i64 pl, .int .i64 co, .int .i64 sh, .int .i64 0, .int .i64 ex, .int .i64 0, .int .i64 0, .int .i64 mem, .slice (some ⟨d1, 0, none⟩) n n, .slice (some ⟨d2, 0, none⟩) n n] 46))) := ((Below.refl _ _).alloc (Nat.le_refl _) _).alloc (by simp) _
  have hz : ((w.alloc (.cells #[.int .i64 pl, .int .i64 co, .int .i64 sh, .int .i64 0, .int .i64 ex, .int .i64 0, .int .i64 0, .int .i64 mem, .slice (some ⟨b1, 0, none⟩) n n, .slice (some ⟨b2, 0, none⟩) n n] 46)).alloc (.cells #[.int .i64 pl, .int .i64 co, .int .i64 sh, .int .i64 0, .int .i64 ex, .int .i64 0, .int .i64 0, .int .i64 mem, .slice (some ⟨d1, 0, none⟩) n n, .slice (some ⟨d2, 0, none⟩) n n] 46)).heap.size = w.heap.size + 2 := by simp
  generalize (w.alloc (.cells #[.int .i64 pl, .int .i64 co, .int .i64 sh, .int .i64 0, .int .i64 ex, .int .i64 0, .int .i64 0, .int .i64 mem, .slice (some ⟨b1, 0, none⟩) n n, .slice (some ⟨b2, 0, none⟩) n n] 46)).alloc (.cells #[.int .i64 pl, .int .i64 co, .int .i64 sh, .int .i64 0, .int .i64 ex, .int .i64 0, .int .i64 0, .int .i64 mem, .slice (some ⟨d1, 0, none⟩) n n, .slice (some ⟨d2, 0, none⟩) n n] 46) = W at x8 x9 y8 y9 HB hz ⊢
  have HX : Hid (∀ w', Below W.heap.size W w' → w'.cell? ⟨w.heap.size, 8, none⟩ = some (.slice (some ⟨b1, 0, none⟩) n n) ∧ w'.cell? ⟨w.heap.size, 9, none⟩ = some (.slice (some ⟨b2, 0, none⟩) n n) ∧ w'.cell? ⟨w.heap.size + 1, 8, none⟩ = some (.slice (some ⟨d1, 0, none⟩) n n) ∧ w'.cell? ⟨w.heap.size + 1, 9, none⟩ = some (.slice (some ⟨d2, 0, none⟩) n n)) := by
    intro w' hb
    have l0 : w.heap.size < W.heap.size := by omega
    have l1 : w.heap.size + 1 < W.heap.size := by omega
    exact ⟨(hb.cell l0).trans x8, (hb.cell l0).trans x9, (hb.cell l1).trans y8, (hb.cell l1).trans y9⟩
  have HW : Hid (∀ w', Below W.heap.size W w' → ∀ i, i < n → w'.cell? ⟨b1, i, none⟩ = some (.int .i64 0) ∧ w'.cell? ⟨d1, i, none⟩ = some (.int .i64 0) ∧ w'.cell? ⟨b2, i, none⟩ = some (.int .i64 0) ∧ w'.cell? ⟨d2, i, none⟩ = some (.int .i64 0)) := by
    intro w' hb i hi
    obtain ⟨q1, q2, q3, q4⟩ := HZ.out i hi
    have go : ∀ b, w.cell? ⟨b, i, none⟩ = some (.int .i64 0) → w'.cell? ⟨b, i, none⟩ = some (.int .i64 0) := fun b hq => by
      have hl := World.block_lt_of_cell? w ⟨b, i, none⟩ hq
      simp only at hl
      rw [hb.cell (by show b < _; omega), HB.out.cell hl]
      exact hq
    exact ⟨go _ q1, go _ q2, go _ q3, go _ q4⟩
  clear x8 x9 y8 y9 HZ
  go_loopg [5] n (fun j i wr => ∃ k : Nat, k ≤ n ∧ i = .int .i64 k ∧ j = n - k ∧ Below W.heap.size W wr)
  case atStart => exact ⟨0, Nat.zero_le _, rfl, rfl, Below.refl _ _⟩
  case round =>
    obtain ⟨k, hk, rfl, hgk, hbel⟩ := hrel
    have HC : Hid (Below W.heap.size W wr ∧ gk = n - k) := ⟨hbel, hgk⟩
    obtain ⟨x8, x9, y8, y9⟩ := HX.out wr hbel
    clear hgk
    by_cases hlt : k < n
    · obtain ⟨q1, q2, q3, q4⟩ := HW.out wr hbel k hlt
      have hki : (k : Int) < n := by omega
      clear hbel q3 q4 x9 y9
      go_wp2_with fail
      go_region
      go_wp2_with fail
      go_roundg (n - (k + 1))
      case measure => have := HC.out.2; omega
      case rel => exact ⟨k + 1, by omega, by go_num, rfl, HC.out.1.drew⟩
    · clear hbel
      go_wp2_with fail
      obtain ⟨wy, hwy⟩ : ∃ wy, wy = wr := ⟨_, rfl⟩
      obtain ⟨gy, hgy⟩ : ∃ gy, gy = gk := ⟨_, rfl⟩
      subst hwy hgy
      clear x8 x9 y8 y9
      go_loopg [6] n (fun j i wr => ∃ k : Nat, k ≤ n ∧ i = .int .i64 k ∧ j = n - k ∧ Below W.heap.size W wr)
      case atStart => exact ⟨0, Nat.zero_le _, rfl, rfl, HC.out.1⟩
      case round =>
        obtain ⟨m, hm, rfl, hgm, hbel⟩ := hrel
        have HD : Hid (Below W.heap.size W wr ∧ gk = n - m) := ⟨hbel, hgm⟩
        obtain ⟨x8, x9, y8, y9⟩ := HX.out wr hbel
        clear hgm
        by_cases hlm : m < n
        · obtain ⟨q1, q2, q3, q4⟩ := HW.out wr hbel m hlm
          have hmi : (m : Int) < n := by omega
          clear hbel q1 q2 x8 y8
          go_wp2_with fail
          go_region
          go_wp2_with fail
          go_roundg (n - (m + 1))
          case measure => have := HD.out.2; omega
          case rel => exact ⟨m + 1, by omega, by go_num, rfl, HD.out.1.drew⟩
        · clear hbel
          go_wp2
          go_ret
          exact ⟨rfl, HB.out.trans (HD.out.1.mono (by omega))⟩
end Go.Proofs.Qxb6609193a
