/-
  DERIVED. BASE FOR 'Rows.FnNewSettledBooksSeparateSaid': small laws on blocks, 'make' with the world written out, the leaves of the road.
-/
import Derived.Test.Qxb6609193aRows
import Derived.WalkKit
import Derived.WalkSpells
import Derived.WalkLawsBesides
import Derived.Deep.RegionHeld3
import Derived.Deep.DrawnRows
import Derived.Deep.DeepCutAuto
import Derived.Deep.LoopGhost
import Derived.Deep.Light
import Derived.OwnWalk
namespace Go.Proofs.Qxb6609193a
open Go.RowKit
set_option maxRecDepth 100000

theorem bcell {W w1 : World} (hb : Below W.heap.size W w1) : (∀ b o, b < W.heap.size → w1.cell? ⟨b, o, none⟩ = W.cell? ⟨b, o, none⟩) ∧ (∀ b o, b < W.heap.size → w1.frozen? ⟨b, o, none⟩ = W.frozen? ⟨b, o, none⟩) :=
  ⟨fun b o h => hb.cell (p := ⟨b, o, none⟩) h, fun b o h => hb.frozen (p := ⟨b, o, none⟩) h⟩
theorem cell_of_block {w : World} {b o : Nat} {c : Array Value} {t : TypeId} {v : Value} (h : w.heap[b]? = some (.cells c t (0, 0))) (hc : c[o]? = some v) : w.cell? ⟨b, o, none⟩ = some v := by
  simp [World.cell?, h, hc]
theorem free_of_block {w : World} {b o : Nat} {c : Array Value} {t : TypeId} (h : w.heap[b]? = some (.cells c t (0, 0))) : w.frozen? ⟨b, o, none⟩ = false := by
  simp [World.frozen?, h]
theorem lt_of_heap {w : World} {b : Nat} {o : Obj} (h : w.heap[b]? = some o) : b < w.heap.size := (Array.getElem?_eq_some_iff.1 h).1
theorem block_set {w : World} {g i : Nat} {cs : Array Value} {t : TypeId} {fr : Nat × Nat} (h : w.heap[g]? = some (.cells cs t fr)) (v : Value) : (w.setCell ⟨g, i, none⟩ v).heap[g]? = some (.cells (cs.setIfInBounds i v) t fr) := by
  simp [World.setCell, Array.getElem?_modify, h]
theorem new_block0 (X : World) (O : Obj) (n : Nat) (h : X.heap.size = n) : (X.alloc O).heap[n]? = some O := by
  subst h
  exact heap_alloc_new X O
/-- Two blocks of different kinds are two. -/
theorem apart {w : World} {a b : Nat} {c d : Array Value} {t u : TypeId} (h : w.heap[a]? = some (.cells c t (0, 0))) (k : w.heap[b]? = some (.cells d u (0, 0))) (ne : t ≠ u) : a ≠ b := by
  rintro rfl
  rw [h] at k
  cases k
  exact ne rfl

/-- A new row of n cells' worth of zeros. -/
def zrow (z : Value) (n : Nat) : Array Value := madeCells z.cells n

/-- 'make([]T, n, m)', the world written out. -/
theorem wpList_make_cap (w : World) {ops : Array Oper} {rest : List Oper} {o : Oper} {a : Act} {Q : Exit → Act → World → Prop}
    (hg : o.guard = none) (l c : Operand) (t : TypeId) (hop : o.op = Op.makeSlice t l c) (e : TypeId) (i : TypeInfo) (z : Value) (size : Nat) (h1 : Try.prog.underlying t = some (.slice e)) (h2 : Try.prog.info? e = some i) (h3 : i.zero = some z) (h4 : i.size = size)
    (kl kc : IntKind) (L C : Int) (n m : Nat) (hl : a.eval l = .int kl L) (hc : a.eval c = .int kc C) (hL : L = (n : Int)) (hC : C = (m : Int)) (hnm : n ≤ m) (b2 : i.bytes * m ≤ 281474976710656) (b3 : m ≤ maxLen)
    (hK : wpList Try.prog ops Q rest (a.put o.dst (.slice (some ⟨w.heap.size, 0, none⟩) n m)) (w.alloc (.cells (zrow z (m * size)) e))) :
    wpList Try.prog ops Q (o :: rest) a w := by
  refine wpList_plain hg fun K hK' => ?_
  subst hL hC h4
  have hb' : (i.bytes : Int) * (m : Int) ≤ 281474976710656 := by
    have h : ((i.bytes * m : Nat) : Int) ≤ 281474976710656 := by omega
    rwa [Int.natCast_mul] at h
  have hr := run_make (P := Try.prog) w t e i z h1 h2 h3 kl kc n m (by omega) (by omega) hb' (by unfold maxLen at b3; omega)
  unfold Oper.wp
  simp [execOp, hop, hl, hc, hr, Result.andThen]
  exact hK' _ _ hK

theorem zrow_one (z : Value) (n : Nat) (hz : z.cells = #[z]) : (zrow z n).size = n ∧ ∀ i, i < n → (zrow z n)[i]? = some z := by
  have h : (zrow z n).toList = List.replicate n z := by unfold zrow; rw [hz]; exact toList_madeCells_one z n
  refine ⟨by rw [← Array.length_toList, h]; simp, fun i hi => ?_⟩
  rw [← Array.getElem?_toList, h]
  simp [hi]

theorem info64 : (Try.prog.info? 64).map (fun i => (i.zero, i.size, i.bytes)) = some (some (.agg #[.bool false, .int .i64 0, .int .i64 0]), 3, 24) := by kernel_rfl
theorem info75 : (Try.prog.info? 75).map (fun i => (i.zero, i.size, i.bytes)) = some (some (.int .u64 0), 1, 8) := by kernel_rfl
theorem info2 : (Try.prog.info? 2).map (fun i => (i.zero, i.size, i.bytes)) = some (some (.int .i64 0), 1, 8) := by kernel_rfl
theorem info3 : (Try.prog.info? 3).map (fun i => (i.zero, i.size, i.bytes)) = some (some (.int .i64 0), 1, 8) := by kernel_rfl

theorem zrow_core (n : Nat) : ∀ i, i < n → (zrow (.agg #[.bool false, .int .i64 0, .int .i64 0]) (n * 3))[i * 3]? = some (.bool false) ∧ (zrow (.agg #[.bool false, .int .i64 0, .int .i64 0]) (n * 3))[i * 3 + 1]? = some (.int .i64 0) ∧ (zrow (.agg #[.bool false, .int .i64 0, .int .i64 0]) (n * 3))[i * 3 + 2]? = some (.int .i64 0) := by
  intro i hi
  have at' : ∀ k, k < n * 3 → (zrow (.agg #[.bool false, .int .i64 0, .int .i64 0]) (n * 3))[k]? = some ((#[.bool false, .int .i64 0, .int .i64 0] : Array Value)[k % 3]!) := by
    intro k hk
    have h : Value.cells (.agg #[.bool false, .int .i64 0, .int .i64 0]) = #[.bool false, .int .i64 0, .int .i64 0] := rfl
    unfold zrow madeCells
    rw [h, Array.getElem?_map, Array.getElem?_range, if_pos hk]
    rfl
  refine ⟨?_, ?_, ?_⟩
  · rw [at' _ (by omega), show i * 3 % 3 = 0 by omega]; rfl
  · rw [at' _ (by omega), show (i * 3 + 1) % 3 = 1 by omega]; rfl
  · rw [at' _ (by omega), show (i * 3 + 2) % 3 = 2 by omega]; rfl

set_option maxHeartbeats 400000 in
theorem newBitSet_calls (n : Nat) (hn : n ≤ 65536) (w : World) :
    Calls Try.prog 32 #[.int .i64 n] w fun e w' => ∃ b, e = .returned (.slice (some ⟨b, 0, none⟩) ((n + 63) / 64) ((n + 63) / 64)) ∧ w.heap.size ≤ b ∧ Below w.heap.size w w' ∧
      ∃ a : Array Value, w'.heap[b]? = some (.cells a 75 (0, 0)) ∧ ∀ i, i < (n + 63) / 64 → ∃ u, a[i]? = some (.int .u64 u) := by
  obtain ⟨i0, hi, hz0, hz1, hz2⟩ := info_parts info75
  go_enter Try.func32, Try.ntmps32
  go_wp2_with (at_make; refine wpList_make_cap _ rfl _ _ 70 rfl 75 i0 (.int .u64 0) 1 Try.underlying70 hi hz0 hz1 .i64 .i64 _ _ ((n + 63) / 64) ((n + 63) / 64) rfl rfl (by omega) (by omega) (Nat.le_refl _) (by rw [hz2]; omega) (by unfold maxLen; omega) ?_)
  go_ret
  refine ⟨_, rfl, Nat.le_refl _, (Below.refl _ _).alloc (Nat.le_refl _) _, _, new_block0 _ _ _ rfl, fun i h => ⟨0, (zrow_one (.int .u64 0) _ rfl).2 i (by omega)⟩⟩

set_option maxHeartbeats 400000 in
theorem newRanks_calls (n : Nat) (hn : n ≤ 65536) (w : World) :
    Calls Try.prog 33 #[.int .i64 n] w fun e w' => ∃ v1 v2, e = .returned (.agg #[v1, v2]) ∧ Below w.heap.size w w' := by
  obtain ⟨i0, hi, hz0, hz1, hz2⟩ := info_parts info2
  go_enter Try.func33, Try.ntmps33
  go_wp2_with (at_make; refine wpList_make_cap _ rfl _ _ 44 rfl 2 i0 (.int .i64 0) 1 Try.underlying44 hi hz0 hz1 .i64 .i64 _ _ 0 (min n 128) rfl rfl (by omega) (by omega) (by omega) (by rw [hz2]; omega) (by unfold maxLen; omega) ?_)
  rotate_left
  · exact bodyPost_ret (v := .agg #[.slice (some ⟨w.heap.size + 1 + 1, 0, none⟩) 1 1, .int .i64 n]) (by simp [results, Try.results33, go_sem]) rfl ⟨⟨_, _, rfl⟩, (((Below.refl _ _).alloc (Nat.le_refl _) _).alloc (by simp) _).alloc (by simp; omega) _⟩
  · exact bodyPost_ret (v := .agg #[.slice (some ⟨w.heap.size + 1 + 1, 0, none⟩) 1 1, .int .i64 128]) (by simp [results, Try.results33, go_sem]) rfl ⟨⟨_, _, rfl⟩, (((Below.refl _ _).alloc (Nat.le_refl _) _).alloc (by simp) _).alloc (by simp; omega) _⟩

/-- THE BOOKS OF A NODE IN MEMORY: n cores, all shared by their own word; sh, ex: the counts of the shared pool and of the exclusive one. -/
structure Bk (w : World) (nb cb n : Nat) (mem sh ex : Int) : Prop where
  node : ∃ c : Array Value, w.heap[nb]? = some (.cells c 77 (0, 0)) ∧ c[1]? = some (.slice (some ⟨cb, 0, none⟩) n n) ∧ c[2]? = some (.int .i64 mem) ∧ c[8]? = some (.int .i64 sh) ∧ c[9]? = some (.int .i64 0) ∧ c[10]? = some (.int .i64 ex) ∧ c[12]? = some (.int .i64 0)
  cores : ∃ a : Array Value, w.heap[cb]? = some (.cells a 64 (0, 0)) ∧ ∀ i, i < n → a[i * 3]? = some (.bool false) ∧ a[i * 3 + 1]? = some (.int .i64 0) ∧ a[i * 3 + 2]? = some (.int .i64 0)

/-- The part of the books that the set of shared cores takes up. -/
structure Sh (w : World) (nb sb n : Nat) : Prop where
  node : ∃ c : Array Value, w.heap[nb]? = some (.cells c 77 (0, 0)) ∧ c[13]? = some (.slice (some ⟨sb, 0, none⟩) ((n + 63) / 64) ((n + 63) / 64)) ∧ ∃ F, c[14]? = some (.int .i64 F)
  bits : ∃ a : Array Value, w.heap[sb]? = some (.cells a 75 (0, 0)) ∧ ∀ i, i < (n + 63) / 64 → ∃ u, a[i]? = some (.int .u64 u)

theorem Bk.kept {w w' : World} {nb cb n : Nat} {mem sh ex : Int} (h : Bk w nb cb n mem sh ex) (e1 : w'.heap[nb]? = w.heap[nb]?) (e2 : w'.heap[cb]? = w.heap[cb]?) : Bk w' nb cb n mem sh ex := by
  obtain ⟨c, h1, h2⟩ := h.node
  obtain ⟨a, k1, k2⟩ := h.cores
  exact ⟨⟨c, e1.trans h1, h2⟩, ⟨a, e2.trans k1, k2⟩⟩

theorem Bk.lt {w : World} {nb cb n : Nat} {mem sh ex : Int} (h : Bk w nb cb n mem sh ex) : nb < w.heap.size ∧ cb < w.heap.size := by
  obtain ⟨c, h1, h2⟩ := h.node
  obtain ⟨a, k1, k2⟩ := h.cores
  exact ⟨lt_of_heap h1, lt_of_heap k1⟩

theorem Bk.later {w w' : World} {nb cb n : Nat} {mem sh ex : Int} (h : Bk w nb cb n mem sh ex) (hb : Below w.heap.size w w') : Bk w' nb cb n mem sh ex :=
  h.kept (hb.block _ h.lt.1) (hb.block _ h.lt.2)

theorem Sh.kept {w w' : World} {nb sb n : Nat} (h : Sh w nb sb n) (e1 : w'.heap[nb]? = w.heap[nb]?) (e2 : w'.heap[sb]? = w.heap[sb]?) : Sh w' nb sb n := by
  obtain ⟨c, h1, h2⟩ := h.node
  obtain ⟨a, k1, k2⟩ := h.bits
  exact ⟨⟨c, e1.trans h1, h2⟩, ⟨a, e2.trans k1, k2⟩⟩

theorem Sh.lt {w : World} {nb sb n : Nat} (h : Sh w nb sb n) : nb < w.heap.size ∧ sb < w.heap.size := by
  obtain ⟨c, h1, h2⟩ := h.node
  obtain ⟨a, k1, k2⟩ := h.bits
  exact ⟨lt_of_heap h1, lt_of_heap k1⟩

theorem Sh.later {w w' : World} {nb sb n : Nat} (h : Sh w nb sb n) (hb : Below w.heap.size w w') : Sh w' nb sb n :=
  h.kept (hb.block _ h.lt.1) (hb.block _ h.lt.2)

/-- BOOKS UNDER WAY since w0. -/
structure Bd (w0 w : World) (nb cb sb n : Nat) (mem sh ex : Int) : Prop where
  bk : Bk w nb cb n mem sh ex
  sh : Sh w nb sb n
  below : Below w0.heap.size w0 w
  new : w0.heap.size ≤ nb ∧ w0.heap.size ≤ sb

theorem Bd.later {w0 w w' : World} {nb cb sb n : Nat} {mem sh ex : Int} (h : Bd w0 w nb cb sb n mem sh ex) (hb : Below w.heap.size w w') : Bd w0 w' nb cb sb n mem sh ex :=
  ⟨h.bk.later hb, h.sh.later hb, h.below.trans (hb.mono h.below.size), h.new⟩

/-- A word of the set of shared cores turns. -/
theorem Bd.setBit {w0 w : World} {nb cb sb n : Nat} {mem sh ex : Int} (h : Bd w0 w nb cb sb n mem sh ex) (j : Nat) (u : Int) : Bd w0 (w.setCell ⟨sb, j, none⟩ (.int .u64 u)) nb cb sb n mem sh ex := by
  obtain ⟨c, h1, h2⟩ := h.bk.node
  obtain ⟨a, k1, k2⟩ := h.bk.cores
  obtain ⟨b, l1, l2⟩ := h.sh.bits
  have e1 : (w.setCell ⟨sb, j, none⟩ (.int .u64 u)).heap[nb]? = w.heap[nb]? := Below.heap_setCell _ _ _ _ (apart h1 l1 (by decide))
  have e2 : (w.setCell ⟨sb, j, none⟩ (.int .u64 u)).heap[cb]? = w.heap[cb]? := Below.heap_setCell _ _ _ _ (apart k1 l1 (by decide))
  refine ⟨h.bk.kept e1 e2, ⟨?_, ⟨_, block_set l1 _, fun i hi => ?_⟩⟩, h.below.setCell h.new.2 _, h.new⟩
  · obtain ⟨c', m1, m2⟩ := h.sh.node
    exact ⟨c', e1.trans m1, m2⟩
  · obtain ⟨u', hu⟩ := l2 i hi
    by_cases e : j = i
    · subst e
      exact ⟨u, by rw [Array.getElem?_setIfInBounds_self_of_lt (Array.getElem?_eq_some_iff.1 hu).1]⟩
    · exact ⟨u', by rw [Array.getElem?_setIfInBounds_ne e]; exact hu⟩

/-- The first word that may hold a shared core turns. -/
theorem Bd.setFrom {w0 w : World} {nb cb sb n : Nat} {mem sh ex : Int} (h : Bd w0 w nb cb sb n mem sh ex) (F : Int) : Bd w0 (w.setCell ⟨nb, 14, none⟩ (.int .i64 F)) nb cb sb n mem sh ex := by
  obtain ⟨c, h1, c1, c2, c3, c4, c5, c6⟩ := h.bk.node
  obtain ⟨a, k1, k2⟩ := h.bk.cores
  obtain ⟨b, l1, l2⟩ := h.sh.bits
  obtain ⟨c', m1, m2, F0, m3⟩ := h.sh.node
  have e2 : (w.setCell ⟨nb, 14, none⟩ (.int .i64 F)).heap[cb]? = w.heap[cb]? := Below.heap_setCell _ _ _ _ (apart k1 h1 (by decide))
  have e3 : (w.setCell ⟨nb, 14, none⟩ (.int .i64 F)).heap[sb]? = w.heap[sb]? := Below.heap_setCell _ _ _ _ (apart l1 h1 (by decide))
  refine ⟨⟨⟨_, block_set h1 _, ?_, ?_, ?_, ?_, ?_, ?_⟩, ⟨a, e2.trans k1, k2⟩⟩, ⟨⟨_, block_set m1 _, ?_, F, ?_⟩, ⟨b, e3.trans l1, l2⟩⟩, h.below.setCell h.new.1 _, h.new⟩
  all_goals first
    | (rw [Array.getElem?_setIfInBounds_ne (by decide)]; assumption)
    | (rw [Array.getElem?_setIfInBounds_self_of_lt (Array.getElem?_eq_some_iff.1 m3).1])

set_option maxHeartbeats 400000 in
theorem pool_calls (w : World) :
    Calls Try.prog 35 #[.agg #[.bool false, .int .i64 0, .int .i64 0]] w fun e w' => e = .returned (.int .i64 0) ∧ Below w.heap.size w w' := by
  go_enter Try.func35, Try.ntmps35
  go_wp2
  go_ret
  exact ⟨rfl, (Below.refl _ _).alloc (Nat.le_refl _) _⟩

set_option maxHeartbeats 400000 in
theorem add_calls (w : World) (sb m i : Nat) (u : Int) (hm : m ≤ 1024) (hi : i / 64 < m) (hc : w.cell? ⟨sb, i / 64, none⟩ = some (.int .u64 u)) (hf : w.frozen? ⟨sb, i / 64, none⟩ = false) :
    Calls Try.prog 43 #[.slice (some ⟨sb, 0, none⟩) m m, .int .i64 i] w fun e w' => e = .returned (.tuple #[]) ∧ ∃ v, Below w.heap.size (w.setCell ⟨sb, i / 64, none⟩ (.int .u64 v)) w' := by
  have h1 : (i : Int) / 64 < m := by omega
  go_enter Try.func43, Try.ntmps43
  go_region
  go_end0
  exact ⟨rfl, _, (Below.refl _ _).drew⟩

theorem add_bd {w0 w : World} {nb cb sb n : Nat} {mem sh ex : Int} (h : Bd w0 w nb cb sb n mem sh ex) (hn : n ≤ 65536) (i : Nat) (hi : i < n) :
    Calls Try.prog 43 #[.slice (some ⟨sb, 0, none⟩) ((n + 63) / 64) ((n + 63) / 64), .int .i64 i] w fun e w' => e = .returned (.tuple #[]) ∧ Bd w0 w' nb cb sb n mem sh ex := by
  obtain ⟨b, l1, l2⟩ := h.sh.bits
  obtain ⟨u, hu⟩ := l2 (i / 64) (by omega)
  refine (add_calls w sb _ i u (by omega) (by omega) (cell_of_block l1 hu) (free_of_block l1)).mono ?_
  rintro e w' ⟨rfl, v, hb⟩
  exact ⟨rfl, (h.setBit _ v).later (by rw [show (w.setCell ⟨sb, i / 64, none⟩ (.int .u64 v)).heap.size = w.heap.size by simp [World.setCell]]; exact hb)⟩

theorem Bd.at13 {w0 w : World} {nb cb sb n : Nat} {mem sh ex : Int} (h : Bd w0 w nb cb sb n mem sh ex) : w.cell? ⟨nb, 13, none⟩ = some (.slice (some ⟨sb, 0, none⟩) ((n + 63) / 64) ((n + 63) / 64)) := by
  obtain ⟨c, m1, m2, F, m3⟩ := h.sh.node
  exact cell_of_block m1 m2
theorem Bd.at14 {w0 w : World} {nb cb sb n : Nat} {mem sh ex : Int} (h : Bd w0 w nb cb sb n mem sh ex) : ∃ F, w.cell? ⟨nb, 14, none⟩ = some (.int .i64 F) ∧ w.frozen? ⟨nb, 14, none⟩ = false := by
  obtain ⟨c, m1, m2, F, m3⟩ := h.sh.node
  exact ⟨F, cell_of_block m1 m3, free_of_block m1⟩

set_option maxHeartbeats 400000 in
theorem share_calls {w0 w : World} {nb cb sb n : Nat} {mem sh ex : Int} (h : Bd w0 w nb cb sb n mem sh ex) (hn : n ≤ 65536) (i : Nat) (hi : i < n) :
    Calls Try.prog 38 #[.pointer (some ⟨nb, 0, none⟩), .int .i64 i] w fun e w' => e = .returned (.tuple #[]) ∧ Bd w0 w' nb cb sb n mem sh ex := by
  have c13 := h.at13
  have HB : Hid (Bd w0 w nb cb sb n mem sh ex) := h
  clear h
  go_enter Try.func38, Try.ntmps38
  go_wp2_with fail
  refine (add_bd HB.out hn i hi).mono ?_
  rintro e w1 ⟨rfl, hb⟩
  obtain ⟨F, c14, f14⟩ := hb.at14
  have HC : Hid (Bd w0 w1 nb cb sb n mem sh ex) := hb
  clear hb HB c13
  go_wp2
  all_goals go_end0
  all_goals exact ⟨rfl, HC.out.setFrom _⟩

theorem Bk.at1 {w : World} {nb cb n : Nat} {mem sh ex : Int} (h : Bk w nb cb n mem sh ex) : w.cell? ⟨nb, 1, none⟩ = some (.slice (some ⟨cb, 0, none⟩) n n) := by
  obtain ⟨c, m1, m2, _⟩ := h.node
  exact cell_of_block m1 m2
theorem Bk.core {w : World} {nb cb n : Nat} {mem sh ex : Int} (h : Bk w nb cb n mem sh ex) (i : Nat) (hi : i < n) : w.cell? ⟨cb, i * 3, none⟩ = some (.bool false) ∧ w.cell? ⟨cb, i * 3 + 1, none⟩ = some (.int .i64 0) ∧ w.cell? ⟨cb, i * 3 + 2, none⟩ = some (.int .i64 0) := by
  obtain ⟨a, k1, k2⟩ := h.cores
  obtain ⟨x, y, z⟩ := k2 i hi
  exact ⟨cell_of_block k1 x, cell_of_block k1 y, cell_of_block k1 z⟩

set_option maxHeartbeats 400000 in
theorem enter_calls {w0 w : World} {nb cb sb n : Nat} {mem sh ex : Int} (h : Bd w0 w nb cb sb n mem sh ex) (hn : n ≤ 65536) (i : Nat) (hi : i < n) :
    Calls Try.prog 34 #[.pointer (some ⟨nb, 0, none⟩), .int .i64 i] w fun e w' => e = .returned (.tuple #[]) ∧ Bd w0 w' nb cb sb n mem sh ex := by
  have c1 := h.bk.at1
  obtain ⟨x, y, z⟩ := h.bk.core i hi
  have HB : Hid (Bd w0 w nb cb sb n mem sh ex) := h
  have h1 : (i : Int) < n := by omega
  clear h
  go_enter Try.func34, Try.ntmps34
  go_wp2_with fail
  refine (pool_calls w).mono ?_
  rintro e w1 ⟨rfl, hb⟩
  have HC : Hid (Bd w0 w1 nb cb sb n mem sh ex) := HB.out.later hb
  clear hb HB c1 x y z
  go_wp2_with fail
  refine (share_calls HC.out hn i hi).mono ?_
  rintro e w2 ⟨rfl, hb⟩
  have HD : Hid (Bd w0 w2 nb cb sb n mem sh ex) := hb
  clear hb
  go_wp2
  go_end0
  exact ⟨rfl, HD.out⟩
end Go.Proofs.Qxb6609193a
