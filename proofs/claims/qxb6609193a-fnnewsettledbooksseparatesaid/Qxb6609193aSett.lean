import Derived.Test.Qxb6609193aBooks
namespace Go.Proofs.Qxb6609193a
open Go.RowKit
set_option maxRecDepth 100000

theorem Bk.far {w : World} {nb cb n : Nat} {mem sh ex : Int} (h : Bk w nb cb n mem sh ex) {p : Addr} (h1 : nb ≠ p.block) (h2 : cb ≠ p.block) (v : Value) : Bk (w.setCell p v) nb cb n mem sh ex :=
  h.kept (Below.heap_setCell _ _ _ _ h1) (Below.heap_setCell _ _ _ _ h2)

set_option maxHeartbeats 400000 in
theorem sett17_calls (w : World) (n : Nat) (mem : Int) (hn : n ≤ 65536) :
    Calls Try.prog 17 #[.int .i64 n, .int .i64 mem] w fun e w' => ∃ nb cb, e = .returned (.agg #[.pointer (some ⟨nb, 0, none⟩), .int .i64 0]) ∧ w.heap.size ≤ nb ∧ w.heap.size ≤ cb ∧ Bk w' nb cb n mem n 0 ∧ Below w.heap.size w w' := by
  go_enter Try.func17, Try.ntmps17
  go_wp2_with fail
  refine (newBooks_calls _ n mem hn).mono ?_
  rintro e w1 ⟨nb, cb, rfl, h1, h2, hbk, hb⟩
  obtain ⟨hc, hf⟩ := bcell hb
  have h0 : w.heap.size < w1.heap.size := by have := hb.size; simp at this; omega
  have HB : Hid (Bk w1 nb cb n mem n 0) := hbk
  clear hbk
  go_wp2
  simp at h1 h2
  refine bodyPost_ret (v := .agg #[.pointer (some ⟨nb, 0, none⟩), .int .i64 0]) (by simp [results, Try.results17, go_sem, hc]) rfl ⟨nb, cb, rfl, by omega, by omega, (HB.out.far (by simp; omega) (by simp; omega) _).far (by simp; omega) (by simp; omega) _, ?_⟩
  exact ((((Below.refl _ _).alloc (Nat.le_refl _) _).trans (hb.mono (by simp))).setCell (by simp) _).setCell (by simp) _

set_option maxHeartbeats 400000 in
theorem sett_calls (w : World) (n : Nat) (mem : Int) (hn : n ≤ 65536) :
    Calls Try.prog 9 #[.int .i64 n, .int .i64 mem] w fun e w' => ∃ nb cb, e = .returned (.agg #[.pointer (some ⟨nb, 0, none⟩), .int .i64 0]) ∧ w.heap.size ≤ nb ∧ w.heap.size ≤ cb ∧ Bk w' nb cb n mem n 0 ∧ Below w.heap.size w w' := by
  go_enter Try.func9, Try.ntmps9
  go_wp2_with fail
  refine (sett17_calls _ n mem hn).mono ?_
  rintro e w1 ⟨nb, cb, rfl, h1, h2, hbk, hb⟩
  obtain ⟨hc, hf⟩ := bcell hb
  have h0 : w.heap.size < w1.heap.size := by have := hb.size; simp at this; omega
  have HB : Hid (Bk w1 nb cb n mem n 0) := hbk
  clear hbk
  go_wp2
  simp at h1 h2
  refine bodyPost_ret (v := .agg #[.pointer (some ⟨nb, 0, none⟩), .int .i64 0]) (by simp [results, Try.results9, go_sem, hc]) rfl ⟨nb, cb, rfl, by omega, by omega, (HB.out.far (by simp; omega) (by simp; omega) _).far (by simp; omega) (by simp; omega) _, ?_⟩
  exact ((((Below.refl _ _).alloc (Nat.le_refl _) _).trans (hb.mono (by simp))).setCell (by simp) _).setCell (by simp) _

set_option maxHeartbeats 400000 in
theorem settNode_calls (w : World) (p : Nat) (v : Value) (h : w.cell? ⟨p, 0, none⟩ = some v) :
    Calls Try.prog 10 #[.pointer (some ⟨p, 0, none⟩)] w fun e w' => e = .returned v ∧ w = w' := by
  go_enter Try.func10, Try.ntmps10
  go_wp2
  go_ret
  exact ⟨rfl, rfl⟩

set_option maxHeartbeats 400000 in
theorem settPlaced_calls (w : World) (p : Nat) (k : Int) (h : w.cell? ⟨p, 1, none⟩ = some (.int .i64 k)) :
    Calls Try.prog 15 #[.pointer (some ⟨p, 0, none⟩)] w fun e w' => e = .returned (.int .i64 k) ∧ w = w' := by
  go_enter Try.func15, Try.ntmps15
  go_wp2
  go_ret
  exact ⟨rfl, rfl⟩

theorem Bk.at10 {w : World} {nb cb n : Nat} {mem sh ex : Int} (h : Bk w nb cb n mem sh ex) : w.cell? ⟨nb, 10, none⟩ = some (.int .i64 ex) ∧ w.frozen? ⟨nb, 10, none⟩ = false := by
  obtain ⟨c, m1, _, _, _, _, m3, _⟩ := h.node
  exact ⟨cell_of_block m1 m3, free_of_block m1⟩

theorem Bk.move {w : World} {nb cb n : Nat} {mem sh ex : Int} (h : Bk w nb cb n mem sh ex) (x y : Int) : Bk ((w.setCell ⟨nb, 8, none⟩ (.int .i64 x)).setCell ⟨nb, 10, none⟩ (.int .i64 y)) nb cb n mem x y := by
  obtain ⟨c, h1, c1, c2, c3, c4, c5, c6⟩ := h.node
  obtain ⟨a, k1, k2⟩ := h.cores
  have ne : cb ≠ nb := apart k1 h1 (by decide)
  have e2 : ((w.setCell ⟨nb, 8, none⟩ (.int .i64 x)).setCell ⟨nb, 10, none⟩ (.int .i64 y)).heap[cb]? = w.heap[cb]? := (Below.heap_setCell _ _ _ _ ne).trans (Below.heap_setCell _ _ _ _ ne)
  have l8 := (Array.getElem?_eq_some_iff.1 c3).1
  have l10 := (Array.getElem?_eq_some_iff.1 c5).1
  refine ⟨⟨_, block_set (block_set h1 _) _, ?_, ?_, ?_, ?_, ?_, ?_⟩, ⟨a, e2.trans k1, k2⟩⟩
  · rw [Array.getElem?_setIfInBounds_ne (by decide), Array.getElem?_setIfInBounds_ne (by decide)]; exact c1
  · rw [Array.getElem?_setIfInBounds_ne (by decide), Array.getElem?_setIfInBounds_ne (by decide)]; exact c2
  · rw [Array.getElem?_setIfInBounds_ne (by decide), Array.getElem?_setIfInBounds_self_of_lt l8]
  · rw [Array.getElem?_setIfInBounds_ne (by decide), Array.getElem?_setIfInBounds_ne (by decide)]; exact c4
  · rw [Array.getElem?_setIfInBounds_self_of_lt (by simpa using l10)]
  · rw [Array.getElem?_setIfInBounds_ne (by decide), Array.getElem?_setIfInBounds_ne (by decide)]; exact c6

/-- What 'countWhole' does to the heap: nothing but the node's two counts. -/
structure Moved (w w' : World) (nb : Nat) (x y : Int) : Prop where
  below : Below w.heap.size ((w.setCell ⟨nb, 8, none⟩ (.int .i64 x)).setCell ⟨nb, 10, none⟩ (.int .i64 y)) w'

set_option maxHeartbeats 1000000 in
theorem count_calls (w : World) (nb : Nat) (sh ex k : Int) (h8 : w.cell? ⟨nb, 8, none⟩ = some (.int .i64 sh)) (f8 : w.frozen? ⟨nb, 8, none⟩ = false) (h10 : w.cell? ⟨nb, 10, none⟩ = some (.int .i64 ex)) (f10 : w.frozen? ⟨nb, 10, none⟩ = false)
    (s1 : 0 ≤ sh - k) (s2 : sh ≤ 65536) (s3 : 0 ≤ ex) (s4 : ex + k ≤ 65536) (s5 : 0 ≤ k) :
    Calls Try.prog 29 #[.pointer (some ⟨nb, 0, none⟩), .int .i64 k] w fun e w' => e = .returned (.tuple #[]) ∧ Moved w w' nb (sh - k) (ex + k) := by
  go_enter Try.func29, Try.ntmps29
  go_wp2_with fail
  go_region
  go_wp2_with fail
  go_region
  go_end0
  exact ⟨rfl, ⟨(Below.refl _ _).drew.drew⟩⟩

/-- What entering an allocation of k whole cores does: one placed more, the node's two counts moved. -/
structure Entered (w w' : World) (p nb : Nat) (x y : Int) : Prop where
  steps : ∃ W W' : World, Below w.heap.size (w.setCell ⟨p, 1, none⟩ (.int .i64 1)) W ∧ Moved W W' nb x y ∧ Below W'.heap.size W' w'

set_option maxHeartbeats 2000000 in
theorem enter18_calls (w : World) (p q nb : Nat) (sh ex : Int) (k : Nat) (a : Option Addr) (cap : Nat) (_hpn : p ≠ nb) (p0 : w.cell? ⟨p, 0, none⟩ = some (.pointer (some ⟨nb, 0, none⟩))) (p1 : w.cell? ⟨p, 1, none⟩ = some (.int .i64 0)) (pf : w.frozen? ⟨p, 1, none⟩ = false)
    (q1 : w.cell? ⟨q, 7, none⟩ = some (.slice a k cap)) (q2 : w.cell? ⟨q, 8, none⟩ = some (.slice none 0 0)) (_hqp : q ≠ p) (hqn : q ≠ nb)
    (h8 : w.cell? ⟨nb, 8, none⟩ = some (.int .i64 sh)) (f8 : w.frozen? ⟨nb, 8, none⟩ = false) (h10 : w.cell? ⟨nb, 10, none⟩ = some (.int .i64 ex)) (f10 : w.frozen? ⟨nb, 10, none⟩ = false)
    (s1 : 0 ≤ sh - k) (s2 : sh ≤ 65536) (s3 : 0 ≤ ex) (s4 : ex + k ≤ 65536) :
    Calls Try.prog 18 #[.pointer (some ⟨p, 0, none⟩), .pointer (some ⟨q, 0, none⟩), .int .i64 1] w fun e w' => e = .returned (.tuple #[]) ∧ Entered w w' p nb (sh - k) (ex + k) := by
  have lp : p < w.heap.size := World.block_lt_of_cell? w ⟨p, 0, none⟩ p0
  have lq : q < w.heap.size := World.block_lt_of_cell? w ⟨q, 7, none⟩ q1
  have ln : nb < w.heap.size := World.block_lt_of_cell? w ⟨nb, 8, none⟩ h8
  have HM : Hid (∀ W, w.heap.size ≤ W.heap.size → W.cell? ⟨nb, 8, none⟩ = some (.int .i64 sh) → W.frozen? ⟨nb, 8, none⟩ = false → W.cell? ⟨nb, 10, none⟩ = some (.int .i64 ex) → W.frozen? ⟨nb, 10, none⟩ = false → Calls Try.prog 29 #[.pointer (some ⟨nb, 0, none⟩), .int .i64 k] W fun e w' => e = .returned (.tuple #[]) ∧ Moved W w' nb (sh - k) (ex + k)) :=
    fun W _ a b c d => count_calls W nb sh ex k a b c d s1 s2 s3 s4 (by omega)
  go_enter Try.func18, Try.ntmps18
  go_wp2_with fail
  go_region
  go_wp2_with fail
  have P0 : (((w.setCell ⟨p, 1, none⟩ (.int .i64 1)).alloc (.cells #[.int .i64 1] 3)).drew).cell? ⟨p, 0, none⟩ = some (.pointer (some ⟨nb, 0, none⟩)) := by go_simp
  have G0 : (((w.setCell ⟨p, 1, none⟩ (.int .i64 1)).alloc (.cells #[.int .i64 1] 3)).drew).cell? ⟨w.heap.size, 0, none⟩ = some (.int .i64 1) := by go_simp
  have Q1 : (((w.setCell ⟨p, 1, none⟩ (.int .i64 1)).alloc (.cells #[.int .i64 1] 3)).drew).cell? ⟨q, 7, none⟩ = some (.slice a k cap) := by go_simp
  have Q2 : (((w.setCell ⟨p, 1, none⟩ (.int .i64 1)).alloc (.cells #[.int .i64 1] 3)).drew).cell? ⟨q, 8, none⟩ = some (.slice none 0 0) := by go_simp
  have H8 : (((w.setCell ⟨p, 1, none⟩ (.int .i64 1)).alloc (.cells #[.int .i64 1] 3)).drew).cell? ⟨nb, 8, none⟩ = some (.int .i64 sh) := by go_simp
  have F8 : (((w.setCell ⟨p, 1, none⟩ (.int .i64 1)).alloc (.cells #[.int .i64 1] 3)).drew).frozen? ⟨nb, 8, none⟩ = false := by go_simp
  have H10 : (((w.setCell ⟨p, 1, none⟩ (.int .i64 1)).alloc (.cells #[.int .i64 1] 3)).drew).cell? ⟨nb, 10, none⟩ = some (.int .i64 ex) := by go_simp
  have F10 : (((w.setCell ⟨p, 1, none⟩ (.int .i64 1)).alloc (.cells #[.int .i64 1] 3)).drew).frozen? ⟨nb, 10, none⟩ = false := by go_simp
  have hz : (((w.setCell ⟨p, 1, none⟩ (.int .i64 1)).alloc (.cells #[.int .i64 1] 3)).drew).heap.size = w.heap.size + 1 := by simp [World.setCell]
  have HB : Hid (Below w.heap.size (w.setCell ⟨p, 1, none⟩ (.int .i64 1)) (((w.setCell ⟨p, 1, none⟩ (.int .i64 1)).alloc (.cells #[.int .i64 1] 3)).drew)) := by
    exact ((Below.refl _ _).alloc (by simp [World.setCell]) _).drew
  generalize ((w.setCell ⟨p, 1, none⟩ (.int .i64 1)).alloc (.cells #[.int .i64 1] 3)).drew = W at P0 G0 Q1 Q2 H8 F8 H10 F10 hz HB ⊢
  clear p0 p1 pf q1 q2 h8 f8 h10 f10
  have HN : Hid (∀ w', Below W.heap.size W w' → Calls Try.prog 29 #[.pointer (some ⟨nb, 0, none⟩), .int .i64 (IntKind.i64.wrap k)] w' fun e w'' => e = .returned (.tuple #[]) ∧ Hid (Below W.heap.size W w' ∧ Moved w' w'' nb (sh - k) (ex + k)) ∧ w''.cell? ⟨q, 8, none⟩ = some (.slice none 0 0)) := by
    intro w' hb
    have l8 : nb < W.heap.size := by omega
    have ek : IntKind.i64.wrap (k : Int) = k := by rw [IntKind.wrap_i64]; omega
    rw [ek]
    refine (HM.out w' (Nat.le_trans (by omega) hb.size) (by rw [hb.cell l8]; exact H8) (by rw [hb.frozen l8]; exact F8) (by rw [hb.cell l8]; exact H10) (by rw [hb.frozen l8]; exact F10)).mono ?_
    rintro e w1 ⟨rfl, h2⟩
    refine ⟨rfl, ⟨hb, h2⟩, ?_⟩
    have hq : q < w'.heap.size := by have := hb.size; omega
    rw [h2.below.cell hq, World.cell?_setCell_far _ _ _ _ (by exact fun e => hqn e.symm), World.cell?_setCell_far _ _ _ _ (by exact fun e => hqn e.symm), hb.cell (by show q < _; omega)]
    exact Q2
  clear H8 F8 H10 F10 HM Q2
  go_region_with (go_at_call 29; refine (HN.out _ (Below.refl _ _).drew).mono ?_; rintro e w1 ⟨rfl, hb, c8⟩)
  all_goals
    go_wp2_with fail
    refine wp_loop_rounds 1 ?_
    rw [rounds_succ]
    go_wp2
    go_end0
    exact ⟨rfl, ⟨W.drew, w1, HB.out.drew, hb.out.2, Below.refl _ _⟩⟩

set_option maxHeartbeats 400000 in
theorem enterZZ_calls (w : World) (p q nb : Nat) (sh ex : Int) (k : Nat) (a : Option Addr) (cap : Nat) (_hpn : p ≠ nb) (p0 : w.cell? ⟨p, 0, none⟩ = some (.pointer (some ⟨nb, 0, none⟩))) (p1 : w.cell? ⟨p, 1, none⟩ = some (.int .i64 0)) (pf : w.frozen? ⟨p, 1, none⟩ = false)
    (q1 : w.cell? ⟨q, 7, none⟩ = some (.slice a k cap)) (q2 : w.cell? ⟨q, 8, none⟩ = some (.slice none 0 0)) (_hqp : q ≠ p) (hqn : q ≠ nb)
    (h8 : w.cell? ⟨nb, 8, none⟩ = some (.int .i64 sh)) (f8 : w.frozen? ⟨nb, 8, none⟩ = false) (h10 : w.cell? ⟨nb, 10, none⟩ = some (.int .i64 ex)) (f10 : w.frozen? ⟨nb, 10, none⟩ = false)
    (s1 : 0 ≤ sh - k) (s2 : sh ≤ 65536) (s3 : 0 ≤ ex) (s4 : ex + k ≤ 65536) :
    Calls Try.prog 11 #[.pointer (some ⟨p, 0, none⟩), .pointer (some ⟨q, 0, none⟩), .int .i64 1] w fun e w' => e = .returned (.tuple #[]) ∧ Entered w w' p nb (sh - k) (ex + k) := by
  have H := enter18_calls w p q nb sh ex k a cap _hpn p0 p1 pf q1 q2 _hqp hqn h8 f8 h10 f10 s1 s2 s3 s4
  have HH : Hid (Calls Try.prog 18 #[.pointer (some ⟨p, 0, none⟩), .pointer (some ⟨q, 0, none⟩), .int .i64 1] w fun e w' => e = .returned (.tuple #[]) ∧ Entered w w' p nb (sh - k) (ex + k)) := H
  clear H p0 p1 pf q1 q2 h8 f8 h10 f10
  go_enter Try.func11, Try.ntmps11
  go_wp2_with fail
  refine HH.out.mono ?_
  rintro e w1 ⟨rfl, hb⟩
  have HB : Hid (Entered w w1 p nb (sh - k) (ex + k)) := hb
  clear hb
  go_wp2
  go_end0
  exact ⟨rfl, HB.out⟩
end Go.Proofs.Qxb6609193a
