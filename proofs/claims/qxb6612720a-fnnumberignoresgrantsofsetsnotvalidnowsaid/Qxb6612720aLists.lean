import Derived.Test.Qxb6612720aBase
namespace Go.Proofs.Qxb6612720a
open Go.RowKit
set_option maxRecDepth 100000

theorem info3 : (Try.prog.info? 3).map (fun i => (i.zero, i.size, i.bytes)) = some (some (.int .i64 0), 1, 8) := by kernel_rfl
theorem info118 : (Try.prog.info? 118).map (fun i => (i.zero, i.size, i.bytes)) = some (some (.agg #[.int .i64 0, .int .i64 0]), 2, 16) := by kernel_rfl

/-- A slice of ints. -/
def IntsIn (w : World) (a : Option Addr) (zs : List Int) : Prop := zs = [] ∨ ∃ b off, a = some ⟨b, off, none⟩ ∧ ∀ i (h : i < zs.length), w.cell? ⟨b, off + i, none⟩ = some (.int .i64 zs[i])

theorem IntsIn.later {w w' : World} {a : Option Addr} {zs : List Int} (h : IntsIn w a zs) (hb : Below w.heap.size w w') : IntsIn w' a zs := by
  rcases h with h | ⟨b, off, ha, h⟩
  · exact Or.inl h
  · exact Or.inr ⟨b, off, ha, fun i hi => (hb.cell (World.block_lt_of_cell? w ⟨b, off + i, none⟩ (h i hi))).trans (h i hi)⟩

/-- A copy of ints under way: block N holds the first k. -/
def CpI (w : World) (N : Nat) (t : TypeId) (zs : List Int) (k : Nat) : Prop :=
  ∃ c : Array Value, w.heap[N]? = some (.cells c t (0, 0)) ∧ c.size = zs.length ∧ ∀ i (h : i < zs.length), i < k → c[i]? = some (.int .i64 zs[i])

theorem CpI.step {w : World} {N : Nat} {t : TypeId} {zs : List Int} {k : Nat} (h : CpI w N t zs k) (hk : k < zs.length) : CpI (w.setCell ⟨N, k, none⟩ (.int .i64 zs[k])) N t zs (k + 1) := by
  obtain ⟨c, h1, h2, h3⟩ := h
  refine ⟨_, block_set h1 _, by simp [h2], fun i hi hik => ?_⟩
  by_cases e : k = i
  · subst e
    rw [Array.getElem?_setIfInBounds_self_of_lt (by omega)]
  · rw [Array.getElem?_setIfInBounds_ne e]
    exact h3 i hi (by omega)

theorem some_at {c : Array Value} {j : Nat} (h : j < c.size) : ∃ v, c[j]? = some v := ⟨_, Array.getElem?_eq_getElem h⟩

theorem zrow_size (z : Value) (n : Nat) : (zrow z n).size = n := size_madeCells _ _

set_option maxHeartbeats 1000000 in
theorem refSets_calls (w : World) (a : Option Addr) (cap : Nat) (rs : List (Int × Int)) (h : RefsIn w a rs) (hl : rs.length ≤ 1048576) :
    Calls Try.prog 27 #[.slice a rs.length cap] w fun e w' => e = .returned (.slice (some ⟨w.heap.size, 0, none⟩) rs.length rs.length) ∧ IntsIn w' (some ⟨w.heap.size, 0, none⟩) (rs.map (·.1)) ∧ Below w.heap.size w w' := by
  obtain ⟨i0, hi, hz0, hz1, hz2⟩ := info_parts info3
  have HI : Hid (RefsIn w a rs) := h
  clear h
  go_enter Try.func27, Try.ntmps27
  go_wp2_with (at_make; refine wpList_make_cap _ rfl _ _ 87 rfl 3 i0 (.int .i64 0) 1 Try.underlying87 hi hz0 hz1 .i64 .i64 _ _ rs.length rs.length rfl rfl (by simp) (by simp) (Nat.le_refl _) (by rw [hz2]; omega) (by unfold maxLen; omega) ?_)
  go_loopg [4] rs.length (fun j i wr => ∃ k : Nat, k ≤ rs.length ∧ i = .int .i64 k ∧ j = rs.length - k ∧ CpI wr w.heap.size 3 (rs.map (·.1)) k ∧ Below w.heap.size w wr)
  case atStart =>
    exact ⟨0, Nat.zero_le _, rfl, rfl, ⟨_, new_block0 _ _ _ rfl, by rw [zrow_size]; simp, fun i _ h0 => absurd h0 (by omega)⟩, (Below.refl _ _).alloc (Nat.le_refl _) _⟩
  case round =>
    obtain ⟨k, hk, rfl, hgk, hcp, hbel⟩ := hrel
    have HC : Hid (CpI wr w.heap.size 3 (rs.map (·.1)) k ∧ Below w.heap.size w wr ∧ gk = rs.length - k) := ⟨hcp, hbel, hgk⟩
    by_cases hlt : k < rs.length
    · rcases HI.out with h0 | ⟨b, off, rfl, hc⟩
      · rw [h0] at hlt; simp at hlt
      · obtain ⟨x0, _⟩ := hc k hlt
        have y0 : wr.cell? ⟨b, off + k * 2, none⟩ = some (.int .i64 (rs[k]).1) := (hbel.cell (World.block_lt_of_cell? w ⟨b, off + k * 2, none⟩ x0)).trans x0
        obtain ⟨c, h1, h2, h3⟩ := hcp
        obtain ⟨v, hv⟩ := some_at (c := c) (j := k) (by rw [h2]; simpa using hlt)
        have z0 := cell_of_block h1 hv
        have f0 : wr.frozen? ⟨w.heap.size, k, none⟩ = false := free_of_block h1
        have hki : (k : Int) < rs.length := by omega
        obtain ⟨q, hq⟩ : ∃ q, q = (rs[k]).1 := ⟨_, rfl⟩
        rw [← hq] at y0
        have HQ : Hid (q = (rs[k]).1) := hq
        clear h1 h2 h3 hv hbel hgk x0 hc hq
        go_wp2_with fail
        go_roundg (rs.length - (k + 1))
        case measure => have := HC.out.2.2; omega
        case rel =>
          refine ⟨k + 1, by omega, by go_num, rfl, ?_, HC.out.2.1.setCell (Nat.le_refl _) _⟩
          have := HC.out.1.step (by simpa using hlt)
          rw [List.getElem_map, ← HQ.out] at this
          exact this
    · clear hcp hbel hgk
      go_wp2
      go_ret
      obtain ⟨⟨c, h1, h2, h3⟩, hbel, _⟩ := HC.out
      refine ⟨rfl, Or.inr ⟨w.heap.size, 0, rfl, fun i hi => ?_⟩, hbel⟩
      rw [Nat.zero_add]
      exact cell_of_block h1 (h3 i hi (by simp at hi; omega))
set_option maxHeartbeats 1000000 in
theorem refGrants_calls (w : World) (a : Option Addr) (cap : Nat) (rs : List (Int × Int)) (h : RefsIn w a rs) (hl : rs.length ≤ 1048576) :
    Calls Try.prog 28 #[.slice a rs.length cap] w fun e w' => e = .returned (.slice (some ⟨w.heap.size, 0, none⟩) rs.length rs.length) ∧ IntsIn w' (some ⟨w.heap.size, 0, none⟩) (rs.map (·.2)) ∧ Below w.heap.size w w' := by
  obtain ⟨i0, hi, hz0, hz1, hz2⟩ := info_parts info3
  have HI : Hid (RefsIn w a rs) := h
  clear h
  go_enter Try.func28, Try.ntmps28
  go_wp2_with (at_make; refine wpList_make_cap _ rfl _ _ 87 rfl 3 i0 (.int .i64 0) 1 Try.underlying87 hi hz0 hz1 .i64 .i64 _ _ rs.length rs.length rfl rfl (by simp) (by simp) (Nat.le_refl _) (by rw [hz2]; omega) (by unfold maxLen; omega) ?_)
  go_loopg [4] rs.length (fun j i wr => ∃ k : Nat, k ≤ rs.length ∧ i = .int .i64 k ∧ j = rs.length - k ∧ CpI wr w.heap.size 3 (rs.map (·.2)) k ∧ Below w.heap.size w wr)
  case atStart =>
    exact ⟨0, Nat.zero_le _, rfl, rfl, ⟨_, new_block0 _ _ _ rfl, by rw [zrow_size]; simp, fun i _ h0 => absurd h0 (by omega)⟩, (Below.refl _ _).alloc (Nat.le_refl _) _⟩
  case round =>
    obtain ⟨k, hk, rfl, hgk, hcp, hbel⟩ := hrel
    have HC : Hid (CpI wr w.heap.size 3 (rs.map (·.2)) k ∧ Below w.heap.size w wr ∧ gk = rs.length - k) := ⟨hcp, hbel, hgk⟩
    by_cases hlt : k < rs.length
    · rcases HI.out with h0 | ⟨b, off, rfl, hc⟩
      · rw [h0] at hlt; simp at hlt
      · obtain ⟨_, x0⟩ := hc k hlt
        have y0 : wr.cell? ⟨b, off + k * 2 + 1, none⟩ = some (.int .i64 (rs[k]).2) := (hbel.cell (World.block_lt_of_cell? w ⟨b, off + k * 2 + 1, none⟩ x0)).trans x0
        obtain ⟨c, h1, h2, h3⟩ := hcp
        obtain ⟨v, hv⟩ := some_at (c := c) (j := k) (by rw [h2]; simpa using hlt)
        have z0 := cell_of_block h1 hv
        have f0 : wr.frozen? ⟨w.heap.size, k, none⟩ = false := free_of_block h1
        have hki : (k : Int) < rs.length := by omega
        obtain ⟨q, hq⟩ : ∃ q, q = (rs[k]).2 := ⟨_, rfl⟩
        rw [← hq] at y0
        have HQ : Hid (q = (rs[k]).2) := hq
        clear h1 h2 h3 hv hbel hgk x0 hc hq
        go_wp2_with fail
        go_roundg (rs.length - (k + 1))
        case measure => have := HC.out.2.2; omega
        case rel =>
          refine ⟨k + 1, by omega, by go_num, rfl, ?_, HC.out.2.1.setCell (Nat.le_refl _) _⟩
          have := HC.out.1.step (by simpa using hlt)
          rw [List.getElem_map, ← HQ.out] at this
          exact this
    · clear hcp hbel hgk
      go_wp2
      go_ret
      obtain ⟨⟨c, h1, h2, h3⟩, hbel, _⟩ := HC.out
      refine ⟨rfl, Or.inr ⟨w.heap.size, 0, rfl, fun i hi => ?_⟩, hbel⟩
      rw [Nat.zero_add]
      exact cell_of_block h1 (h3 i hi (by simp at hi; omega))

/-- Refs under way: block N holds the first k. -/
def CpR (w : World) (N : Nat) (rs : List (Int × Int)) (k : Nat) : Prop :=
  ∃ c : Array Value, w.heap[N]? = some (.cells c 118 (0, 0)) ∧ c.size = rs.length * 2 ∧ ∀ i (h : i < rs.length), i < k → c[i * 2]? = some (.int .i64 (rs[i]).1) ∧ c[i * 2 + 1]? = some (.int .i64 (rs[i]).2)

theorem CpR.step {w : World} {N : Nat} {rs : List (Int × Int)} {k : Nat} (h : CpR w N rs k) (hk : k < rs.length) : CpR ((w.setCell ⟨N, k * 2, none⟩ (.int .i64 (rs[k]).1)).setCell ⟨N, k * 2 + 1, none⟩ (.int .i64 (rs[k]).2)) N rs (k + 1) := by
  obtain ⟨c, h1, h2, h3⟩ := h
  refine ⟨_, block_set (block_set h1 _) _, by simp [h2], fun i hi hik => ?_⟩
  by_cases e : i = k
  · subst e
    refine ⟨?_, ?_⟩
    · rw [Array.getElem?_setIfInBounds_ne (by omega), Array.getElem?_setIfInBounds_self_of_lt (by omega)]
    · rw [Array.getElem?_setIfInBounds_self_of_lt (by simp; omega)]
  · refine ⟨?_, ?_⟩
    · rw [Array.getElem?_setIfInBounds_ne (by omega), Array.getElem?_setIfInBounds_ne (by omega)]
      exact (h3 i hi (by omega)).1
    · rw [Array.getElem?_setIfInBounds_ne (by omega), Array.getElem?_setIfInBounds_ne (by omega)]
      exact (h3 i hi (by omega)).2

set_option maxHeartbeats 1000000 in
theorem zzRefs_calls (w : World) (a1 a2 : Option Addr) (c1 c2 : Nat) (rs : List (Int × Int)) (h1 : IntsIn w a1 (rs.map (·.1))) (h2 : IntsIn w a2 (rs.map (·.2))) (hl : rs.length ≤ 1048576) :
    Calls Try.prog 31 #[.slice a1 rs.length c1, .slice a2 rs.length c2] w fun e w' => e = .returned (.slice (some ⟨w.heap.size, 0, none⟩) rs.length rs.length) ∧ w'.heap.size = w.heap.size + 1 ∧ CpR w' w.heap.size rs rs.length ∧ Below w.heap.size w w' := by
  obtain ⟨i0, hi, hz0, hz1, hz2⟩ := info_parts info118
  have HI : Hid (IntsIn w a1 (rs.map (·.1)) ∧ IntsIn w a2 (rs.map (·.2))) := ⟨h1, h2⟩
  clear h1 h2
  go_enter Try.func31, Try.ntmps31
  go_wp2_with (at_make; refine wpList_make_cap _ rfl _ _ 99 rfl 118 i0 (.agg #[.int .i64 0, .int .i64 0]) 2 Try.underlying99 hi hz0 hz1 .i64 .i64 _ _ rs.length rs.length rfl rfl (by simp) (by simp) (Nat.le_refl _) (by rw [hz2]; omega) (by unfold maxLen; omega) ?_)
  go_loopg [12] rs.length (fun j i wr => ∃ k : Nat, k ≤ rs.length ∧ i = .int .i64 k ∧ j = rs.length - k ∧ wr.heap.size = w.heap.size + 1 ∧ CpR wr w.heap.size rs k ∧ Below w.heap.size w wr)
  case atStart =>
    exact ⟨0, Nat.zero_le _, rfl, rfl, by simp, ⟨_, new_block0 _ _ _ rfl, zrow_size _ _, fun i _ h0 => absurd h0 (by omega)⟩, (Below.refl _ _).alloc (Nat.le_refl _) _⟩
  case round =>
    obtain ⟨k, hk, rfl, hgk, hsz, hcp, hbel⟩ := hrel
    have HC : Hid (CpR wr w.heap.size rs k ∧ Below w.heap.size w wr ∧ gk = rs.length - k ∧ wr.heap.size = w.heap.size + 1) := ⟨hcp, hbel, hgk, hsz⟩
    clear hsz
    by_cases hlt : k < rs.length
    · obtain ⟨g1, g2⟩ := HI.out
      rcases g1 with h0 | ⟨b, off, rfl, hc⟩
      · rw [List.map_eq_nil_iff] at h0; rw [h0] at hlt; simp at hlt
      · rcases g2 with h0 | ⟨b', off', rfl, hc'⟩
        · rw [List.map_eq_nil_iff] at h0; rw [h0] at hlt; simp at hlt
        · have x0 := hc k (by simpa using hlt)
          have x1 := hc' k (by simpa using hlt)
          rw [List.getElem_map] at x0 x1
          have y0 : wr.cell? ⟨b, off + k, none⟩ = some (.int .i64 (rs[k]).1) := (hbel.cell (World.block_lt_of_cell? w ⟨b, off + k, none⟩ x0)).trans x0
          have y1 : wr.cell? ⟨b', off' + k, none⟩ = some (.int .i64 (rs[k]).2) := (hbel.cell (World.block_lt_of_cell? w ⟨b', off' + k, none⟩ x1)).trans x1
          obtain ⟨c, h1, h2, h3⟩ := hcp
          obtain ⟨v0, hv0⟩ := some_at (c := c) (j := k * 2) (by omega)
          obtain ⟨v1, hv1⟩ := some_at (c := c) (j := k * 2 + 1) (by omega)
          have z0 := cell_of_block h1 hv0
          have z1 := cell_of_block h1 hv1
          have f0 : wr.frozen? ⟨w.heap.size, k * 2, none⟩ = false := free_of_block h1
          have f1 : wr.frozen? ⟨w.heap.size, k * 2 + 1, none⟩ = false := free_of_block h1
          have hki : (k : Int) < rs.length := by omega
          obtain ⟨q, hq⟩ : ∃ q, q = rs[k] := ⟨_, rfl⟩
          rw [← hq] at y0 y1
          have HQ : Hid (q = rs[k]) := hq
          clear h1 h2 h3 hv0 hv1 hbel hgk x0 x1 hc hc' hq
          go_wp2_with fail
          go_region
          go_wp2_with fail
          go_roundg (rs.length - (k + 1))
          case measure => have := HC.out.2.2.1; omega
          case rel =>
            refine ⟨k + 1, by omega, by go_num, rfl, ?_, ?_, ?_⟩
            · have := HC.out.2.2.2
              simp [World.setCell]
              omega
            · have := HC.out.1.step hlt
              rw [← HQ.out] at this
              exact this
            · exact ((HC.out.2.1.setCell (Nat.le_refl _) _).setCell (Nat.le_refl _) _).drew
    · clear hcp hbel hgk
      go_wp2
      go_ret
      have e : k = rs.length := by omega
      subst e
      exact ⟨rfl, HC.out.2.2.2, HC.out.1, HC.out.2.1⟩
end Go.Proofs.Qxb6612720a
