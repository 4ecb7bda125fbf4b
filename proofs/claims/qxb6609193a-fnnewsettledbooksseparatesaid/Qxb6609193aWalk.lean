import Derived.Test.Qxb6609193aOf
import Derived.Test.Qxb6609193aCopy
import Derived.LaidEqlPtr
namespace Go.Proofs.Qxb6609193a
open Go.RowKit
set_option maxRecDepth 100000

theorem InI.later {w w' : World} {a : Option Addr} {len : Nat} (h : InI w a len) (hb : Below w.heap.size w w') : InI w' a len := by
  rcases h with h | ⟨b, off, ha, h⟩
  · exact Or.inl h
  · refine Or.inr ⟨b, off, ha, fun i hi => ?_⟩
    obtain ⟨z, hz⟩ := h i hi
    exact ⟨z, (hb.cell (World.block_lt_of_cell? w ⟨b, off + i, none⟩ hz)).trans hz⟩

/-- A variable that holds settled books. -/
def Var (w : World) (p nb : Nat) (k : Int) : Prop := w.heap[p]? = some (.cells #[.pointer (some ⟨nb, 0, none⟩), .int .i64 k] 29 (0, 0))

theorem Var.later {w w' : World} {p nb : Nat} {k : Int} (h : Var w p nb k) (hb : Below w.heap.size w w') : Var w' p nb k := (hb.block _ (lt_of_heap h)).trans h

/-- Both books stand. -/
structure Two (w0 w : World) (n : Nat) (mem : Int) (nb1 cb1 nb2 cb2 p1 p2 : Nat) (k1 sh1 ex1 : Int) : Prop where
  b1 : Bk w nb1 cb1 n mem sh1 ex1
  b2 : Bk w nb2 cb2 n mem n 0
  v1 : Var w p1 nb1 k1
  v2 : Var w p2 nb2 0
  ne : nb1 ≠ nb2 ∧ p1 ≠ p2
  below : Below w0.heap.size w0 w
  new : w0.heap.size ≤ p1 ∧ w0.heap.size ≤ nb1

theorem Two.later {w0 w w' : World} {n : Nat} {mem : Int} {nb1 cb1 nb2 cb2 p1 p2 : Nat} {k1 sh1 ex1 : Int} (h : Two w0 w n mem nb1 cb1 nb2 cb2 p1 p2 k1 sh1 ex1) (hb : Below w.heap.size w w') : Two w0 w' n mem nb1 cb1 nb2 cb2 p1 p2 k1 sh1 ex1 :=
  ⟨h.b1.later hb, h.b2.later hb, h.v1.later hb, h.v2.later hb, h.ne, h.below.trans (hb.mono h.below.size), h.new⟩

theorem Two.entered {w0 w w' : World} {n : Nat} {mem : Int} {nb1 cb1 nb2 cb2 p1 p2 : Nat} {sh1 ex1 x y : Int} (h : Two w0 w n mem nb1 cb1 nb2 cb2 p1 p2 0 sh1 ex1) (he : Entered w w' p1 nb1 x y) : Two w0 w' n mem nb1 cb1 nb2 cb2 p1 p2 1 x y := by
  obtain ⟨W, W', e1, e2, e3⟩ := he.steps
  have s0 : (w.setCell ⟨p1, 1, none⟩ (.int .i64 1)).heap.size = w.heap.size := by simp [World.setCell]
  obtain ⟨c1, m1, _⟩ := h.b1.node
  obtain ⟨d1, k1, _⟩ := h.b1.cores
  obtain ⟨c2, m2, _⟩ := h.b2.node
  obtain ⟨d2, k2, _⟩ := h.b2.cores
  have hv1 : w.heap[p1]? = some (.cells #[.pointer (some ⟨nb1, 0, none⟩), .int .i64 0] 29 (0, 0)) := h.v1
  have g1 : Two w0 (w.setCell ⟨p1, 1, none⟩ (.int .i64 1)) n mem nb1 cb1 nb2 cb2 p1 p2 1 sh1 ex1 :=
    ⟨h.b1.far (apart m1 hv1 (by decide)) (apart k1 hv1 (by decide)) _, h.b2.far (apart m2 hv1 (by decide)) (apart k2 hv1 (by decide)) _, (block_set hv1 _).trans rfl, (Below.heap_setCell _ _ _ _ (fun e => h.ne.2 e.symm)).trans h.v2, h.ne, h.below.setCell h.new.1 _, h.new⟩
  have g2 : Two w0 W n mem nb1 cb1 nb2 cb2 p1 p2 1 sh1 ex1 := g1.later (by rw [s0]; exact e1)
  obtain ⟨c1', m1', _⟩ := g2.b1.node
  obtain ⟨c2', m2', _⟩ := g2.b2.node
  obtain ⟨d2', k2', _⟩ := g2.b2.cores
  have gv1 : W.heap[p1]? = some (.cells #[.pointer (some ⟨nb1, 0, none⟩), .int .i64 1] 29 (0, 0)) := g2.v1
  have gv2 : W.heap[p2]? = some (.cells #[.pointer (some ⟨nb2, 0, none⟩), .int .i64 0] 29 (0, 0)) := g2.v2
  have n1 : p1 ≠ nb1 := apart gv1 m1' (by decide)
  have n2 : p2 ≠ nb1 := apart gv2 m1' (by decide)
  have n3 : cb2 ≠ nb1 := apart k2' m1' (by decide)
  have n4 : nb2 ≠ nb1 := fun e => h.ne.1 e.symm
  have g3 : Two w0 ((W.setCell ⟨nb1, 8, none⟩ (.int .i64 x)).setCell ⟨nb1, 10, none⟩ (.int .i64 y)) n mem nb1 cb1 nb2 cb2 p1 p2 1 x y :=
    ⟨g2.b1.move x y, (g2.b2.far n4 n3 _).far n4 n3 _, (Below.heap_setCell _ _ _ _ n1).trans ((Below.heap_setCell _ _ _ _ n1).trans g2.v1), (Below.heap_setCell _ _ _ _ n2).trans ((Below.heap_setCell _ _ _ _ n2).trans g2.v2), h.ne, (g2.below.setCell h.new.2 _).setCell h.new.2 _, h.new⟩
  have s1 : ((W.setCell ⟨nb1, 8, none⟩ (.int .i64 x)).setCell ⟨nb1, 10, none⟩ (.int .i64 y)).heap.size = W.heap.size := by simp [World.setCell]
  exact (g3.later (by rw [s1]; exact e2.below)).later e3

/-- The state that is wanted, in memory. -/
def Want (w : World) (t f1 f2 n : Nat) (k sh ex mem : Int) : Prop := w.heap[t]? = some (.cells #[.int .i64 k, .int .i64 n, .int .i64 sh, .int .i64 0, .int .i64 ex, .int .i64 0, .int .i64 0, .int .i64 mem, .slice (some ⟨f1, 0, none⟩) n n, .slice (some ⟨f2, 0, none⟩) n n] 46 (0, 0)) ∧ Zeros w f1 2 n ∧ Zeros w f2 3 n

theorem Want.later {w w' : World} {t f1 f2 n : Nat} {k sh ex mem : Int} (h : Want w t f1 f2 n k sh ex mem) (hb : Below w.heap.size w w') : Want w' t f1 f2 n k sh ex mem := ⟨(hb.block _ (lt_of_heap h.1)).trans h.1, h.2.1.later hb, h.2.2.later hb⟩

theorem size77 : (Try.prog.info? 77).map (·.size) = some 21 := by kernel_rfl
theorem ptr_other {w : World} {n : Nat} {mem : Int} {nb1 cb1 nb2 cb2 : Nat} {s1 x1 s2 x2 : Int} (h1 : Bk w nb1 cb1 n mem s1 x1) (h2 : Bk w nb2 cb2 n mem s2 x2) (ne : nb1 ≠ nb2) :
    (binOp .eql 27 (.pointer (some ⟨nb1, 0, none⟩)) (.pointer (some ⟨nb2, 0, none⟩))).run Try.prog w = .ok (.bool false) w := by
  obtain ⟨j, hj, hs⟩ := Option.map_eq_some_iff.1 size77
  obtain ⟨c1, m1, _⟩ := h1.node
  obtain ⟨c2, m2, _⟩ := h2.node
  exact run_eql_ptr_other w Try.underlying27 hj (by omega) (fun e => ne (by cases e; rfl)) m1 m2

theorem two_enter {w0 w : World} {n len : Nat} {mem : Int} {nb1 cb1 nb2 cb2 p1 p2 : Nat} (h : Two w0 w n mem nb1 cb1 nb2 cb2 p1 p2 0 n 0) (hn : n ≤ 65536) (hl : len ≤ n) (a : Option Addr) (cap : Nat) :
    Calls Try.prog 11 #[.pointer (some ⟨p1, 0, none⟩), .pointer (some ⟨w.heap.size, 0, none⟩), .int .i64 1] (w.alloc (.cells #[.int .i64 0, .int .i64 0, .int .i64 0, .int .i64 0, .int .i64 0, .int .i64 0, .int .i64 0, .slice a len cap, .slice none 0 0, .slice none 0 0, .bool false] 41)) fun e w' => e = .returned (.tuple #[]) ∧ Two w0 w' n mem nb1 cb1 nb2 cb2 p1 p2 1 (n - len) (0 + len) := by
  have hq : (w.alloc (.cells #[.int .i64 0, .int .i64 0, .int .i64 0, .int .i64 0, .int .i64 0, .int .i64 0, .int .i64 0, .slice a len cap, .slice none 0 0, .slice none 0 0, .bool false] 41)).heap[w.heap.size]? = _ := new_block0 _ _ _ rfl
  have g := h.later ((Below.refl _ w).alloc (Nat.le_refl _) (.cells #[.int .i64 0, .int .i64 0, .int .i64 0, .int .i64 0, .int .i64 0, .int .i64 0, .int .i64 0, .slice a len cap, .slice none 0 0, .slice none 0 0, .bool false] 41))
  have l1 := lt_of_heap h.v1
  have l2 := h.b1.lt.1
  obtain ⟨c, m1, _⟩ := h.b1.node
  have hv1 : w.heap[p1]? = some (.cells #[.pointer (some ⟨nb1, 0, none⟩), .int .i64 0] 29 (0, 0)) := h.v1
  refine (enterZZ_calls _ p1 w.heap.size nb1 n 0 len a cap (apart hv1 m1 (by decide)) (cell_of_block g.v1 rfl) (cell_of_block g.v1 rfl) (free_of_block g.v1) (cell_of_block hq rfl) (cell_of_block hq rfl) (by omega) (by omega) g.b1.at8.1 g.b1.at8.2 g.b1.at10.1 g.b1.at10.2 (by omega) (by omega) (by omega) (by omega)).mono ?_
  rintro e w' ⟨rfl, he⟩
  exact ⟨rfl, g.entered he⟩

theorem chain {N : Nat} {W w' w'' : World} (h1 : Below N W w') (hN : N = W.heap.size) (h2 : Below w'.heap.size w' w'') : Below N W w'' := h1.trans (h2.mono (by rw [hN]; exact h1.size))

set_option maxHeartbeats 4000000 in
theorem walk_yes (w : World) (n len : Nat) (mem : Int) (a : Option Addr) (cap : Nat) (hI : InI w a len) (hn0 : a = none → len = 0) (hn : n ≤ 65536) (hl : len ≤ n) :
    Calls Try.prog 5 #[.int .i64 n, .int .i64 mem, .slice a len cap] w fun e w' => e = .returned (.bool true) ∧ Below w.heap.size w w' := by
  have HI : Hid (InI w a len ∧ (a = none → len = 0)) := ⟨hI, hn0⟩
  clear hI hn0
  go_enter Try.func5, Try.ntmps5
  go_wp2_with fail
  refine (bytes_calls w _ _ a len cap).mono ?_
  rintro e w' ⟨b, rfl, rfl, hb⟩
  clear hb
  cases b
  · go_wp2
    go_ret
    exact ⟨rfl, Below.refl _ _⟩
  · go_wp2_with fail
    refine (copy_calls w a len cap HI.out.1 HI.out.2 (by omega)).mono ?_
    rintro e w1 ⟨a1, c1, rfl, hI1, hn1, hb1⟩
    have H1 : Hid (InI w1 a1 len ∧ (a1 = none → len = 0) ∧ Below w.heap.size w w1) := ⟨hI1, hn1, hb1⟩
    clear hI1 hn1 hb1 HI
    go_wp2_with fail
    refine (sett_calls w1 n mem hn).mono ?_
    rintro e w2 ⟨nb1, cb1, rfl, h1, h2, hbk1, hb2⟩
    have H2 : Hid (w1.heap.size ≤ nb1 ∧ w1.heap.size ≤ cb1 ∧ Bk w2 nb1 cb1 n mem n 0 ∧ Below w1.heap.size w1 w2) := ⟨h1, h2, hbk1, hb2⟩
    clear h1 h2 hbk1 hb2
    go_wp2_with fail
    refine (sett_calls _ n mem hn).mono ?_
    rintro e w4 ⟨nb2, cb2, rfl, h1, h2, hbk2, hb4⟩
    have H4 : Hid (Two w (w4.alloc (.cells #[.pointer (some ⟨nb2, 0, none⟩), .int .i64 0] 29)) n mem nb1 cb1 nb2 cb2 w2.heap.size w4.heap.size 0 n 0 ∧ InI (w4.alloc (.cells #[.pointer (some ⟨nb2, 0, none⟩), .int .i64 0] 29)) a1 len) := by
      obtain ⟨i1, _, i3⟩ := H1.out
      obtain ⟨j1, j2, j3, j4⟩ := H2.out
      have ba : Below w2.heap.size w2 (w2.alloc (.cells #[.pointer (some ⟨nb1, 0, none⟩), .int .i64 0] 29)) := (Below.refl _ _).alloc (Nat.le_refl _) _
      have bb : Below w4.heap.size w4 (w4.alloc (.cells #[.pointer (some ⟨nb2, 0, none⟩), .int .i64 0] 29)) := (Below.refl _ _).alloc (Nat.le_refl _) _
      have s1 := i3.size
      have s2 := j4.size
      have s4 := hb4.size
      have lt1 := j3.lt
      simp at h1 h2 s4
      have b2 : Below w.heap.size w w2 := i3.trans (j4.mono s1)
      have b3 := b2.trans (ba.mono b2.size)
      have b4 := b3.trans (hb4.mono b3.size)
      have vv : Var (w2.alloc (.cells #[.pointer (some ⟨nb1, 0, none⟩), .int .i64 0] 29)) w2.heap.size nb1 0 := new_block0 _ _ _ rfl
      refine ⟨⟨((j3.later ba).later hb4).later bb, hbk2.later bb, (vv.later hb4).later bb, new_block0 _ _ _ rfl, ⟨by omega, by omega⟩, b4.trans (bb.mono b4.size), ⟨by omega, by omega⟩⟩, ((((i1.later j4)).later ba).later hb4).later bb⟩
    have e1 : nb1 ≠ nb2 := H4.out.1.ne.1
    have v1 : (w4.alloc (.cells #[.pointer (some ⟨nb2, 0, none⟩), .int .i64 0] 29)).cell? ⟨w2.heap.size, 0, none⟩ = some (.pointer (some ⟨nb1, 0, none⟩)) := cell_of_block H4.out.1.v1 rfl
    have v2 : (w4.alloc (.cells #[.pointer (some ⟨nb2, 0, none⟩), .int .i64 0] 29)).cell? ⟨w4.heap.size, 0, none⟩ = some (.pointer (some ⟨nb2, 0, none⟩)) := cell_of_block H4.out.1.v2 rfl
    clear h1 h2 hbk2 hb4
    go_wp2_with fail
    refine (settNode_calls _ _ _ v1).mono ?_
    rintro e w' ⟨rfl, rfl⟩
    go_wp2_with fail
    refine (settNode_calls _ _ _ v2).mono ?_
    rintro e w' ⟨rfl, rfl⟩
    generalize w4.alloc (.cells #[.pointer (some ⟨nb2, 0, none⟩), .int .i64 0] 29) = W5 at H4 v1 v2 ⊢
    have hpe := ptr_other H4.out.1.b1 H4.out.1.b2 e1
    go_wp2_with fail
    refine (copy_calls W5 a1 len c1 H4.out.2 H1.out.2.1 (by omega)).mono ?_
    rintro e w6 ⟨a6, c6, rfl, -, -, hb6⟩
    have H6 : Hid (Two w w6 n mem nb1 cb1 nb2 cb2 w2.heap.size w4.heap.size 0 n 0) := H4.out.1.later hb6
    clear hb6 v1 v2 hpe H4
    generalize w2.heap.size = p1 at H6 ⊢
    generalize w4.heap.size = p2 at H6 ⊢
    go_wp2_with fail
    refine (two_enter H6.out hn hl a6 c6).mono ?_
    rintro e w7 ⟨rfl, hb7⟩
    have H7 : Hid (Two w w7 n mem nb1 cb1 nb2 cb2 p1 p2 1 (n - len) (0 + len)) := hb7
    clear hb7 H6
    go_wp2_with fail
    refine (fresh_calls w7 n mem hn).mono ?_
    rintro e w8 ⟨f1, f2, rfl, zf1, zf2, hb8⟩
    have H8 : Hid (Two w w8 n mem nb1 cb1 nb2 cb2 p1 p2 1 (n - len) (0 + len) ∧ Zeros w8 f1 2 n ∧ Zeros w8 f2 3 n) := ⟨H7.out.later hb8, zf1, zf2⟩
    clear zf1 zf2 hb8 H7
    unfold stV
    go_wp2_with fail
    have hw9 : Below w8.heap.size w8 (w8.alloc (.cells #[.int .i64 1, .int .i64 n, .int .i64 (n - len), .int .i64 0, .int .i64 len, .int .i64 0, .int .i64 0, .int .i64 mem, .slice (some ⟨f1, 0, none⟩) n n, .slice (some ⟨f2, 0, none⟩) n n] 46)) := (Below.refl _ _).alloc (Nat.le_refl _) _
    have H9 : Hid (Two w (w8.alloc (.cells #[.int .i64 1, .int .i64 n, .int .i64 (n - len), .int .i64 0, .int .i64 len, .int .i64 0, .int .i64 0, .int .i64 mem, .slice (some ⟨f1, 0, none⟩) n n, .slice (some ⟨f2, 0, none⟩) n n] 46)) n mem nb1 cb1 nb2 cb2 p1 p2 1 (n - len) len ∧ Want (w8.alloc (.cells #[.int .i64 1, .int .i64 n, .int .i64 (n - len), .int .i64 0, .int .i64 len, .int .i64 0, .int .i64 0, .int .i64 mem, .slice (some ⟨f1, 0, none⟩) n n, .slice (some ⟨f2, 0, none⟩) n n] 46)) w8.heap.size f1 f2 n 1 (n - len) len mem) := by
      obtain ⟨q1, q2, q3⟩ := H8.out
      rw [Int.zero_add] at q1
      exact ⟨q1.later hw9, new_block0 _ _ _ rfl, q2.later hw9, q3.later hw9⟩
    clear hw9 H8
    generalize w8.alloc (.cells #[.int .i64 1, .int .i64 n, .int .i64 (n - len), .int .i64 0, .int .i64 len, .int .i64 0, .int .i64 0, .int .i64 mem, .slice (some ⟨f1, 0, none⟩) n n, .slice (some ⟨f2, 0, none⟩) n n] 46) = W9 at H9 ⊢
    generalize w8.heap.size = t at H9 ⊢
    have HS : Hid (∀ w', Below W9.heap.size W9 w' → (Below W9.heap.size W9 w' ∧ w'.cell? ⟨t, 0, none⟩ = some (.int .i64 1) ∧ w'.cell? ⟨t, 1, none⟩ = some (.int .i64 n) ∧ w'.cell? ⟨t, 2, none⟩ = some (.int .i64 (n - len)) ∧ w'.cell? ⟨t, 3, none⟩ = some (.int .i64 0) ∧ w'.cell? ⟨t, 4, none⟩ = some (.int .i64 len) ∧ w'.cell? ⟨t, 5, none⟩ = some (.int .i64 0) ∧ w'.cell? ⟨t, 6, none⟩ = some (.int .i64 0) ∧ w'.cell? ⟨t, 7, none⟩ = some (.int .i64 mem) ∧ w'.cell? ⟨t, 8, none⟩ = some (.slice (some ⟨f1, 0, none⟩) n n) ∧ w'.cell? ⟨t, 9, none⟩ = some (.slice (some ⟨f2, 0, none⟩) n n))) := fun w' hb =>
      have hw := (H9.out.2.later hb).1
      ⟨hb, cell_of_block hw rfl, cell_of_block hw rfl, cell_of_block hw rfl, cell_of_block hw rfl, cell_of_block hw rfl, cell_of_block hw rfl, cell_of_block hw rfl, cell_of_block hw rfl, cell_of_block hw rfl, cell_of_block hw rfl⟩
    have HP1 : Hid (∀ w', Below W9.heap.size W9 w' → Calls Try.prog 15 #[.pointer (some ⟨p1, 0, none⟩)] w' fun e w'' => e = .returned (.int .i64 1) ∧ w' = w'') := fun w' hb => settPlaced_calls w' p1 1 (cell_of_block (H9.out.1.later hb).v1 rfl)
    have HP2 : Hid (∀ w', Below W9.heap.size W9 w' → Calls Try.prog 15 #[.pointer (some ⟨p2, 0, none⟩)] w' fun e w'' => e = .returned (.int .i64 0) ∧ w' = w'') := fun w' hb => settPlaced_calls w' p2 0 (cell_of_block (H9.out.1.later hb).v2 rfl)
    have HO1 : Hid (∀ w', Below W9.heap.size W9 w' → Calls Try.prog 14 #[.int .i64 1, .pointer (some ⟨nb1, 0, none⟩)] w' fun e w'' => ∃ b1 b2, e = .returned (stV 1 n (n - len) len mem b1 b2 n) ∧ Zeros w'' b1 2 n ∧ Zeros w'' b2 3 n ∧ Below w'.heap.size w' w'') := fun w' hb => stateOf_calls w' nb1 cb1 n 1 mem _ _ hn (H9.out.1.later hb).b1
    have HO2 : Hid (∀ w', Below W9.heap.size W9 w' → Calls Try.prog 14 #[.int .i64 0, .pointer (some ⟨nb2, 0, none⟩)] w' fun e w'' => ∃ b1 b2, e = .returned (stV 0 n n 0 mem b1 b2 n) ∧ Zeros w'' b1 2 n ∧ Zeros w'' b2 3 n ∧ Below w'.heap.size w' w'') := fun w' hb => stateOf_calls w' nb2 cb2 n 0 mem _ _ hn (H9.out.1.later hb).b2
    have HQ1 : Hid (∀ w' b1 b2, Below W9.heap.size W9 w' → Zeros w' b1 2 n → Zeros w' b2 3 n → Calls Try.prog 13 #[stV 1 n (n - len) len mem b1 b2 n, (.agg #[.int .i64 1, .int .i64 n, .int .i64 (n - len), .int .i64 0, .int .i64 len, .int .i64 0, .int .i64 0, .int .i64 mem, .slice (some ⟨f1, 0, none⟩) n n, .slice (some ⟨f2, 0, none⟩) n n])] w' fun e w'' => e = .returned (.bool true) ∧ Below w'.heap.size w' w'') := fun w' b1 b2 hb z1 z2 => same_calls w' 1 n (n - len) len mem b1 b2 f1 f2 n hn z1 z2 (H9.out.2.later hb).2.1 (H9.out.2.later hb).2.2
    have HF : Hid (∀ w', Calls Try.prog 12 #[.int .i64 n, .int .i64 mem] w' fun e w'' => ∃ b1 b2, e = .returned (stV 0 n n 0 mem b1 b2 n) ∧ Zeros w'' b1 2 n ∧ Zeros w'' b2 3 n ∧ Below w'.heap.size w' w'') := fun w' => fresh_calls w' n mem hn
    have HQ2 : Hid (∀ w' b1 b2 d1 d2, Zeros w' b1 2 n → Zeros w' b2 3 n → Zeros w' d1 2 n → Zeros w' d2 3 n → Calls Try.prog 13 #[stV 0 n n 0 mem b1 b2 n, stV 0 n n 0 mem d1 d2 n] w' fun e w'' => e = .returned (.bool true) ∧ Below w'.heap.size w' w'') := fun w' b1 b2 d1 d2 z1 z2 y1 y2 => same_calls w' 0 n n 0 mem b1 b2 d1 d2 n hn z1 z2 y1 y2
    have HB : Hid (Below w.heap.size w W9) := H9.out.1.below
    clear H9 H1 H2
    go_region_held3 (fun w' => Below W9.heap.size W9 w' ∧ w'.cell? ⟨t, 0, none⟩ = some (.int .i64 1) ∧ w'.cell? ⟨t, 1, none⟩ = some (.int .i64 n) ∧ w'.cell? ⟨t, 2, none⟩ = some (.int .i64 (n - len)) ∧ w'.cell? ⟨t, 3, none⟩ = some (.int .i64 0) ∧ w'.cell? ⟨t, 4, none⟩ = some (.int .i64 len) ∧ w'.cell? ⟨t, 5, none⟩ = some (.int .i64 0) ∧ w'.cell? ⟨t, 6, none⟩ = some (.int .i64 0) ∧ w'.cell? ⟨t, 7, none⟩ = some (.int .i64 mem) ∧ w'.cell? ⟨t, 8, none⟩ = some (.slice (some ⟨f1, 0, none⟩) n n) ∧ w'.cell? ⟨t, 9, none⟩ = some (.slice (some ⟨f2, 0, none⟩) n n))
      (first | exact HS.out _ (Below.refl _ _).drew | assumption | exact HS.out _ (chain (And.left ‹Below _ _ _ ∧ _›) rfl hx1) | exact HS.out _ (chain (And.left ‹Below _ _ _ ∧ _›) rfl hy1) | exact HS.out _ (chain (And.left ‹Below _ _ _ ∧ _›) rfl hx2) | exact HS.out _ (chain (And.left ‹Below _ _ _ ∧ _›) rfl hf) | exact HS.out _ (chain (And.left ‹Below _ _ _ ∧ _›) rfl hy2))
      (first
        | (go_at_call_of 15 (Value.pointer (some ⟨p1, 0, none⟩)); refine (HP1.out _ (And.left ‹Below _ _ _ ∧ _›)).mono ?_; rintro e w' ⟨rfl, rfl⟩)
        | (go_at_call_of 15 (Value.pointer (some ⟨p2, 0, none⟩)); refine (HP2.out _ (And.left ‹Below _ _ _ ∧ _›)).mono ?_; rintro e w' ⟨rfl, rfl⟩)
        | (go_at_call_of 14 (Value.int IntKind.i64 1); refine (HO1.out _ (And.left ‹Below _ _ _ ∧ _›)).mono ?_; rintro e wa ⟨b1, b2, rfl, z1, z2, hx1⟩)
        | (go_at_call_of 14 (Value.int IntKind.i64 0); refine (HO2.out _ (And.left ‹Below _ _ _ ∧ _›)).mono ?_; rintro e wc ⟨k1, k2, rfl, y1, y2, hx2⟩)
        | (go_at_call 12; refine (HF.out _).mono ?_; rintro e wd ⟨g1, g2, rfl, x1, x2, hf⟩)
        | (go_at_call_of 13 (stV 1 n (n - len) len mem b1 b2 n); refine (HQ1.out _ b1 b2 (And.left ‹Below _ _ _ ∧ _›) z1 z2).mono ?_; rintro e wb ⟨rfl, hy1⟩)
        | (go_at_call_of 13 (stV 0 n n 0 mem k1 k2 n); refine (HQ2.out _ k1 k2 g1 g2 (y1.later hf) (y2.later hf) x1 x2).mono ?_; rintro e we ⟨rfl, hy2⟩))
    go_wp2
    go_ret
    exact ⟨rfl, HB.out.trans ((And.left ‹Below _ _ _ ∧ _›).mono HB.out.size)⟩

set_option maxHeartbeats 1000000 in
theorem walk_no (w : World) (n mem : Int) (len : Nat) (a : Option Addr) (cap : Nat) (h : ¬ (0 ≤ n ∧ n ≤ 65536 ∧ (len : Int) ≤ n)) :
    Calls Try.prog 5 #[.int .i64 n, .int .i64 mem, .slice a len cap] w fun e w' => e = .returned (.bool true) ∧ Below w.heap.size w w' := by
  have hh : n < 0 ∨ 65536 < n ∨ n < len := by omega
  clear h
  go_enter Try.func5, Try.ntmps5
  go_wp2_with fail
  refine (bytes_calls w _ _ a len cap).mono ?_
  rintro e w' ⟨b, rfl, rfl, hb⟩
  clear hb
  cases b
  · go_wp2
    go_ret
    exact ⟨rfl, Below.refl _ _⟩
  · go_wp2_with fail
    all_goals first
      | (go_ret; exact ⟨rfl, Below.refl _ _⟩)
      | (exfalso; omega)

theorem walk (w : World) (n mem : Int) (len : Nat) (a : Option Addr) (cap : Nat) (hI : InI w a len) (hn0 : a = none → len = 0) :
    Calls Try.prog 5 #[.int .i64 n, .int .i64 mem, .slice a len cap] w fun e w' => e = .returned (.bool true) ∧ Below w.heap.size w w' := by
  by_cases h : 0 ≤ n ∧ n ≤ 65536 ∧ (len : Int) ≤ n
  · obtain ⟨h1, h2, h3⟩ := h
    obtain ⟨m, rfl⟩ := Int.eq_ofNat_of_zero_le h1
    exact walk_yes w m len mem a cap hI hn0 (by omega) (by omega)
  · exact walk_no w n mem len a cap h
end Go.Proofs.Qxb6609193a
