import Derived.Test.Qxb6609193aBase
namespace Go.Proofs.Qxb6609193a
open Go.RowKit
set_option maxRecDepth 100000

/-- What 'make([]T, n)' does, as one equation for every world. -/
theorem make_run {t e : TypeId} {z : Value} {size bytes : Nat} (h1 : Try.prog.underlying t = some (.slice e)) (hi : (Try.prog.info? e).map (fun i => (i.zero, i.size, i.bytes)) = some (some z, size, bytes)) (n : Nat) (hb : bytes * n ≤ 281474976710656 ∧ n ≤ 9223372036854775807) (wx : World) :
    (Instr.makeSlice t (.int .i64 n) (.int .i64 n)).run Try.prog wx = .ok (.slice (some ⟨wx.heap.size, 0, none⟩) n n) (wx.alloc (.cells (zrow z (n * size)) e)) := by
  obtain ⟨i, h2, h3, rfl, rfl⟩ := info_parts hi
  have hb' : (i.bytes : Int) * (n : Int) ≤ 281474976710656 := by
    have h : ((i.bytes * n : Nat) : Int) ≤ 281474976710656 := by omega
    rwa [Int.natCast_mul] at h
  have := run_make (P := Try.prog) wx t e i z h1 h2 h3 .i64 .i64 n n (by omega) (Int.le_refl _) hb' (by omega)
  simpa [zrow] using this

def CoresAt (w : World) (cb n : Nat) : Prop := ∃ a : Array Value, w.heap[cb]? = some (.cells a 64 (0, 0)) ∧ ∀ i, i < n → a[i * 3]? = some (.bool false) ∧ a[i * 3 + 1]? = some (.int .i64 0) ∧ a[i * 3 + 2]? = some (.int .i64 0)
def BitsAt (w : World) (sb n : Nat) : Prop := ∃ a : Array Value, w.heap[sb]? = some (.cells a 75 (0, 0)) ∧ ∀ i, i < (n + 63) / 64 → ∃ u, a[i]? = some (.int .u64 u)

theorem CoresAt.later {w w' : World} {cb n : Nat} (h : CoresAt w cb n) (hb : Below w.heap.size w w') : CoresAt w' cb n := by
  obtain ⟨a, h1, h2⟩ := h
  exact ⟨a, (hb.block _ (lt_of_heap h1)).trans h1, h2⟩
theorem BitsAt.later {w w' : World} {sb n : Nat} (h : BitsAt w sb n) (hb : Below w.heap.size w w') : BitsAt w' sb n := by
  obtain ⟨a, h1, h2⟩ := h
  exact ⟨a, (hb.block _ (lt_of_heap h1)).trans h1, h2⟩
theorem cores_made (w : World) (n : Nat) : CoresAt (w.alloc (.cells (zrow (.agg #[.bool false, .int .i64 0, .int .i64 0]) (n * 3)) 64)) w.heap.size n :=
  ⟨_, new_block0 _ _ _ rfl, zrow_core n⟩
theorem made_bd {w w3 : World} {cb sb n N : Nat} (hN : w3.heap.size = N) {mem : Int} {v1 v2 : Value} (hb : Below w.heap.size w w3) (hc : CoresAt w3 cb n) (hs : BitsAt w3 sb n) (hsb : w.heap.size ≤ sb) :
    Bd w (w3.alloc (.cells #[.int .i64 0, .slice (some ⟨cb, 0, none⟩) n n, .int .i64 mem, .int .i64 0, .int .i64 0, .int .i64 0, .int .i64 0, .int .i64 0, .int .i64 0, .int .i64 0, .int .i64 0, .int .i64 0, .int .i64 0, .slice (some ⟨sb, 0, none⟩) ((n + 63) / 64) ((n + 63) / 64), .int .i64 0, v1, v2, .pointer none, .pointer none, .int .i64 0, .int .u64 0] 77)) N cb sb n mem 0 0 := by
  subst hN
  exact ⟨⟨⟨_, new_block0 _ _ _ rfl, rfl, rfl, rfl, rfl, rfl, rfl⟩, hc.later ((Below.refl _ _).alloc (Nat.le_refl _) _)⟩, ⟨⟨_, new_block0 _ _ _ rfl, rfl, _, rfl⟩, hs.later ((Below.refl _ _).alloc (Nat.le_refl _) _)⟩, hb.alloc hb.size _, hb.size, hsb⟩

/-- The count of the shared pool is laid. -/
theorem Bd.setPool {w0 w : World} {nb cb sb n : Nat} {mem sh ex : Int} (h : Bd w0 w nb cb sb n mem sh ex) (x : Int) : Bd w0 (w.setCell ⟨nb, 8, none⟩ (.int .i64 x)) nb cb sb n mem x ex := by
  obtain ⟨c, h1, c1, c2, c3, c4, c5, c6⟩ := h.bk.node
  obtain ⟨a, k1, k2⟩ := h.bk.cores
  obtain ⟨b, l1, l2⟩ := h.sh.bits
  obtain ⟨c', m1, m2, F0, m3⟩ := h.sh.node
  have e2 : (w.setCell ⟨nb, 8, none⟩ (.int .i64 x)).heap[cb]? = w.heap[cb]? := Below.heap_setCell _ _ _ _ (apart k1 h1 (by decide))
  have e3 : (w.setCell ⟨nb, 8, none⟩ (.int .i64 x)).heap[sb]? = w.heap[sb]? := Below.heap_setCell _ _ _ _ (apart l1 h1 (by decide))
  refine ⟨⟨⟨_, block_set h1 _, ?_, ?_, ?_, ?_, ?_, ?_⟩, ⟨a, e2.trans k1, k2⟩⟩, ⟨⟨_, block_set m1 _, ?_, F0, ?_⟩, ⟨b, e3.trans l1, l2⟩⟩, h.below.setCell h.new.1 _, h.new⟩
  all_goals first
    | (rw [Array.getElem?_setIfInBounds_ne (by decide)]; assumption)
    | (rw [Array.getElem?_setIfInBounds_self_of_lt (Array.getElem?_eq_some_iff.1 c3).1])

theorem Bk.at8 {w : World} {nb cb n : Nat} {mem sh ex : Int} (h : Bk w nb cb n mem sh ex) : w.cell? ⟨nb, 8, none⟩ = some (.int .i64 sh) ∧ w.frozen? ⟨nb, 8, none⟩ = false := by
  obtain ⟨c, m1, _, _, m3, _⟩ := h.node
  exact ⟨cell_of_block m1 m3, free_of_block m1⟩

set_option maxHeartbeats 2000000 in
theorem newBooks_calls (w : World) (n : Nat) (mem : Int) (hn : n ≤ 65536) :
    Calls Try.prog 28 #[.int .i64 n, .int .i64 mem] w fun e w' => ∃ nb cb, e = .returned (.pointer (some ⟨nb, 0, none⟩)) ∧ w.heap.size ≤ nb ∧ w.heap.size ≤ cb ∧ Bk w' nb cb n mem n 0 ∧ Below w.heap.size w w' := by
  have hmk := make_run Try.underlying67 info64 n (by omega)
  go_enter Try.func28, Try.ntmps28
  go_upto_region 1 with fail
  go_cut [5] (fun v5 wc => ∃ nb cb sb, v5 = .pointer (some ⟨nb, 0, none⟩) ∧ w.heap.size ≤ cb ∧ Bd w wc nb cb sb n mem 0 0)
  case first =>
    go_region_with (first | (go_at_call 32; refine (newBitSet_calls n hn _).mono ?_; rintro e w1 ⟨b1, rfl, hn1, hb1, ha1⟩) | (go_at_call 33; refine (newRanks_calls n hn _).mono ?_; rintro e w2 ⟨v1, v2, rfl, hb2⟩))
    all_goals go_wp2_with fail
    all_goals go_meet
    · case rel =>
        have b0 : Below w.heap.size w (w.alloc (.cells (zrow (.agg #[.bool false, .int .i64 0, .int .i64 0]) (n * 3)) 64)).drew := ((Below.refl _ _).alloc (Nat.le_refl _) _).drew
        have b1' := b0.trans (hb1.mono b0.size)
        have k0 := ((cores_made w n).later (Below.refl _ _).drew).later hb1
        exact ⟨_, _, _, rfl, Nat.le_refl _, made_bd (by simp) (b1'.trans (hb2.mono b1'.size)) (k0.later hb2) (BitsAt.later ha1 hb2) (Nat.le_trans b0.size hn1)⟩
    · case rel =>
        have b0 : Below w.heap.size w w.drew := (Below.refl _ _).drew
        have b1' := b0.trans (hb1.mono b0.size)
        have b3 : Below w1.heap.size w1 (w1.alloc (.cells (zrow (.agg #[.bool false, .int .i64 0, .int .i64 0]) (n * 3)) 64)) := (Below.refl _ _).alloc (Nat.le_refl _) _
        have b4 := b1'.trans (b3.mono b1'.size)
        exact ⟨_, _, _, rfl, b1'.size, made_bd (by simp) (b4.trans (hb2.mono b4.size)) ((cores_made w1 n).later hb2) ((BitsAt.later ha1 b3).later hb2) hn1⟩
    · case rel =>
        have b0 : Below w.heap.size w w.drew := (Below.refl _ _).drew
        have b1' := b0.trans (hb1.mono b0.size)
        have b2' := b1'.trans (hb2.mono b1'.size)
        have b3 : Below w2.heap.size w2 (w2.alloc (.cells (zrow (.agg #[.bool false, .int .i64 0, .int .i64 0]) (n * 3)) 64)) := (Below.refl _ _).alloc (Nat.le_refl _) _
        exact ⟨_, _, _, rfl, b2'.size, made_bd (by simp) (b2'.trans (b3.mono b2'.size)) (cores_made w2 n) ((BitsAt.later ha1 hb2).later b3) hn1⟩
  case rest =>
    obtain ⟨nb, cb, sb, rfl, hcb, hbd⟩ := hcut
    obtain ⟨c8, f8⟩ := hbd.bk.at8
    have HB : Hid (Bd w wc nb cb sb n mem 0 0 ∧ w.heap.size ≤ cb) := ⟨hbd, hcb⟩
    clear hbd hmk hcb
    go_wp2_with fail
    go_loopg [22] n (fun j i wr => ∃ k : Nat, k ≤ n ∧ i = .int .i64 k ∧ j = n - k ∧ Bd w wr nb cb sb n mem n 0)
    case atStart => exact ⟨0, Nat.zero_le _, rfl, rfl, HB.out.1.setPool _⟩
    case round =>
      obtain ⟨k, hk, rfl, hgk, hbd⟩ := hrel
      have HC : Hid (Bd w wr nb cb sb n mem n 0 ∧ gk = n - k) := ⟨hbd, hgk⟩
      clear hbd hgk
      by_cases hlt : k < n
      · have hki : (k : Int) < n := by omega
        go_wp2_with fail
        refine (enter_calls HC.out.1 hn k hlt).mono ?_
        rintro e w1 ⟨rfl, hb⟩
        have HD : Hid (Bd w w1 nb cb sb n mem n 0) := hb
        clear hb
        go_wp2_with fail
        go_roundg (n - (k + 1))
        case measure => have := HC.out.2; omega
        case rel => exact ⟨k + 1, by omega, by go_num, rfl, HD.out⟩
      · go_wp2
        go_ret
        exact ⟨nb, cb, rfl, HC.out.1.new.1, HB.out.2, HC.out.1.bk, HC.out.1.below⟩
end Go.Proofs.Qxb6609193a
