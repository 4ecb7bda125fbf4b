/-
  DERIVED. BASE FOR 'Rows.FnNumberIgnoresGrantsOfSetsNotValidNowSaid': small laws on blocks, 'make' with the world written out, the leaves of the road.
-/
import Derived.Test.Qxb6612720aRows
import Derived.WalkKit
import Derived.WalkSpells
import Derived.WalkLawsBesides
import Derived.Deep.RegionHeld3
import Derived.Deep.DrawnRows
import Derived.Deep.DeepCutAuto
import Derived.Deep.LoopGhost
import Derived.Deep.Light
import Derived.OwnWalk
namespace Go.Proofs.Qxb6612720a
open Go.RowKit
set_option maxRecDepth 100000

theorem bcell {W w1 : World} (hb : Below W.heap.size W w1) : (∀ b o, b < W.heap.size → w1.cell? ⟨b, o, none⟩ = W.cell? ⟨b, o, none⟩) ∧ (∀ b o, b < W.heap.size → w1.frozen? ⟨b, o, none⟩ = W.frozen? ⟨b, o, none⟩) :=
  ⟨fun b o h => hb.cell (p := ⟨b, o, none⟩) h, fun b o h => hb.frozen (p := ⟨b, o, none⟩) h⟩
theorem cell_of_block {w : World} {b o : Nat} {c : Array Value} {t : TypeId} {v : Value} (h : w.heap[b]? = some (.cells c t (0, 0))) (hc : c[o]? = some v) : w.cell? ⟨b, o, none⟩ = some v := by
  simp [World.cell?, h, hc]
theorem free_of_block {w : World} {b o : Nat} {c : Array Value} {t : TypeId} (h : w.heap[b]? = some (.cells c t (0, 0))) : w.frozen? ⟨b, o, none⟩ = false := by
  simp [World.frozen?, h]
theorem lt_of_heap {w : World} {b : Nat} {o : Obj} (h : w.heap[b]? = some o) : b < w.heap.size := (Array.getElem?_eq_some_iff.1 h).1
theorem block_set {w : World} {g i : Nat} {cs : Array Value} {t : TypeId} {fr : Nat × Nat} (h : w.heap[g]? = some (.cells cs t fr)) (v : Value) : (w.setCell ⟨g, i, none⟩ v).heap[g]? = some (.cells (cs.setIfInBounds i v) t fr) := by
  simp [World.setCell, Array.getElem?_modify, h]
theorem new_block0 (X : World) (O : Obj) (n : Nat) (h : X.heap.size = n) : (X.alloc O).heap[n]? = some O := by
  subst h
  exact heap_alloc_new X O
/-- Two blocks of different kinds are two. -/
theorem apart {w : World} {a b : Nat} {c d : Array Value} {t u : TypeId} (h : w.heap[a]? = some (.cells c t (0, 0))) (k : w.heap[b]? = some (.cells d u (0, 0))) (ne : t ≠ u) : a ≠ b := by
  rintro rfl
  rw [h] at k
  cases k
  exact ne rfl

/-- A new row of n cells' worth of zeros. -/
def zrow (z : Value) (n : Nat) : Array Value := madeCells z.cells n

/-- 'make([]T, n, m)', the world written out. -/
theorem wpList_make_cap (w : World) {ops : Array Oper} {rest : List Oper} {o : Oper} {a : Act} {Q : Exit → Act → World → Prop}
    (hg : o.guard = none) (l c : Operand) (t : TypeId) (hop : o.op = Op.makeSlice t l c) (e : TypeId) (i : TypeInfo) (z : Value) (size : Nat) (h1 : Try.prog.underlying t = some (.slice e)) (h2 : Try.prog.info? e = some i) (h3 : i.zero = some z) (h4 : i.size = size)
    (kl kc : IntKind) (L C : Int) (n m : Nat) (hl : a.eval l = .int kl L) (hc : a.eval c = .int kc C) (hL : L = (n : Int)) (hC : C = (m : Int)) (hnm : n ≤ m) (b2 : i.bytes * m ≤ 281474976710656) (b3 : m ≤ maxLen)
    (hK : wpList Try.prog ops Q rest (a.put o.dst (.slice (some ⟨w.heap.size, 0, none⟩) n m)) (w.alloc (.cells (zrow z (m * size)) e))) :
    wpList Try.prog ops Q (o :: rest) a w := by
  refine wpList_plain hg fun K hK' => ?_
  subst hL hC h4
  have hb' : (i.bytes : Int) * (m : Int) ≤ 281474976710656 := by
    have h : ((i.bytes * m : Nat) : Int) ≤ 281474976710656 := by omega
    rwa [Int.natCast_mul] at h
  have hr := run_make (P := Try.prog) w t e i z h1 h2 h3 kl kc n m (by omega) (by omega) hb' (by unfold maxLen at b3; omega)
  unfold Oper.wp
  simp [execOp, hop, hl, hc, hr, Result.andThen]
  exact hK' _ _ hK

theorem zrow_one (z : Value) (n : Nat) (hz : z.cells = #[z]) : (zrow z n).size = n ∧ ∀ i, i < n → (zrow z n)[i]? = some z := by
  have h : (zrow z n).toList = List.replicate n z := by unfold zrow; rw [hz]; exact toList_madeCells_one z n
  refine ⟨by rw [← Array.length_toList, h]; simp, fun i hi => ?_⟩
  rw [← Array.getElem?_toList, h]
  simp [hi]

/-- What 'make([]T, n)' does, as one equation for every world. -/
theorem make_run {t e : TypeId} {z : Value} {size bytes : Nat} (h1 : Try.prog.underlying t = some (.slice e)) (hi : (Try.prog.info? e).map (fun i => (i.zero, i.size, i.bytes)) = some (some z, size, bytes)) (n : Nat) (hb : bytes * n ≤ 281474976710656 ∧ n ≤ 9223372036854775807) (wx : World) :
    (Instr.makeSlice t (.int .i64 n) (.int .i64 n)).run Try.prog wx = .ok (.slice (some ⟨wx.heap.size, 0, none⟩) n n) (wx.alloc (.cells (zrow z (n * size)) e)) := by
  obtain ⟨i, h2, h3, rfl, rfl⟩ := info_parts hi
  have hb' : (i.bytes : Int) * (n : Int) ≤ 281474976710656 := by
    have h : ((i.bytes * n : Nat) : Int) ≤ 281474976710656 := by omega
    rwa [Int.natCast_mul] at h
  have := run_make (P := Try.prog) wx t e i z h1 h2 h3 .i64 .i64 n n (by omega) (Int.le_refl _) hb' (by omega)
  simpa [zrow] using this


/-- A slice of refs: pairs of ints. -/
def RefsIn (w : World) (a : Option Addr) (rs : List (Int × Int)) : Prop :=
  rs = [] ∨ ∃ b off, a = some ⟨b, off, none⟩ ∧ ∀ i (h : i < rs.length), w.cell? ⟨b, off + i * 2, none⟩ = some (.int .i64 (rs[i]).1) ∧ w.cell? ⟨b, off + i * 2 + 1, none⟩ = some (.int .i64 (rs[i]).2)

/-- Is a window open at now? -/
def openAt (x : Int × Int) (now : Int) : Bool := decide (x.1 ≤ now) && decide (now < x.2)

set_option maxHeartbeats 400000 in
theorem validAt_calls (w : World) (x : Int × Int) (now : Int) :
    Calls Try.prog 14 #[.agg #[.int .i64 x.1, .int .i64 x.2], .int .i64 now] w fun e w' => e = .returned (.bool (openAt x now)) ∧ Below w.heap.size w w' := by
  go_enter Try.func14, Try.ntmps14
  go_wp2
  all_goals go_ret
  all_goals refine ⟨?_, (Below.refl _ _).alloc (Nat.le_refl _) _⟩
  all_goals simp [openAt, *]
  all_goals (intro h2; exfalso; omega)

/-- Where a ref first stands in a list. -/
def idx (rs : List (Int × Int)) (x : Int × Int) : Int := if x ∈ rs then (rs.idxOf x : Int) else -1

theorem idx_at {rs : List (Int × Int)} {x : Int × Int} (k : Nat) (hk : k < rs.length) (e : rs[k] = x) (hno : x ∉ rs.take k) : idx rs x = k := by
  have hm : x ∈ rs := by rw [← e]; exact List.getElem_mem hk
  rw [idx, if_pos hm]
  have h1 : rs = rs.take k ++ x :: rs.drop (k + 1) := by
    rw [← e, List.getElem_cons_drop, List.take_append_drop]
  have h2 : rs.idxOf x = k := by
    conv => lhs; rw [h1]
    rw [List.idxOf_append, if_neg hno]
    simp
    omega
  rw [h2]

theorem not_mem_take {rs : List (Int × Int)} {x : Int × Int} {k : Nat} (hk : k < rs.length) (hno : x ∉ rs.take k) (ne : x ≠ rs[k]) : x ∉ rs.take (k + 1) := by
  rw [List.take_succ_eq_append_getElem hk]
  intro h
  rcases List.mem_append.1 h with h | h
  · exact hno h
  · exact ne (List.mem_singleton.1 h)

set_option maxHeartbeats 1000000 in
theorem indexOf_calls (w : World) (a : Option Addr) (cap : Nat) (rs : List (Int × Int)) (x : Int × Int) (h : RefsIn w a rs) (hl : rs.length ≤ 1048576) :
    Calls Try.prog 15 #[.slice a rs.length cap, .agg #[.int .i64 x.1, .int .i64 x.2]] w fun e w' => e = .returned (.int .i64 (idx rs x)) ∧ Below w.heap.size w w' := by
  rcases h with rfl | ⟨b, off, rfl, h⟩
  · go_enter Try.func15, Try.ntmps15
    go_wp2_with fail
    refine wp_loop_rounds 1 ?_
    rw [rounds_succ]
    go_wp2
    go_ret
    exact ⟨rfl, (Below.refl _ _).alloc (Nat.le_refl _) _⟩
  · have H : Hid (∀ i (h : i < rs.length), w.cell? ⟨b, off + i * 2, none⟩ = some (.int .i64 (rs[i]).1) ∧ w.cell? ⟨b, off + i * 2 + 1, none⟩ = some (.int .i64 (rs[i]).2)) := h
    clear h
    go_enter Try.func15, Try.ntmps15
    go_wp2_with fail
    go_loopg [5] rs.length (fun j i wr => ∃ k : Nat, k ≤ rs.length ∧ i = .int .i64 k ∧ j = rs.length - k ∧ x ∉ rs.take k ∧ Below (w.heap.size + 1) (w.alloc (.cells #[.int .i64 x.1, .int .i64 x.2] 60)) wr)
    case atStart => exact ⟨0, Nat.zero_le _, rfl, rfl, by simp, Below.refl _ _⟩
    case round =>
      obtain ⟨k, hk, rfl, hgk, hno, hbel⟩ := hrel
      have HC : Hid (gk = rs.length - k ∧ x ∉ rs.take k ∧ Below (w.heap.size + 1) (w.alloc (.cells #[.int .i64 x.1, .int .i64 x.2] 60)) wr) := ⟨hgk, hno, hbel⟩
      have x0 : wr.cell? ⟨w.heap.size, 0, none⟩ = some (.int .i64 x.1) := by rw [hbel.cell (by simp)]; go_simp
      have x1 : wr.cell? ⟨w.heap.size, 1, none⟩ = some (.int .i64 x.2) := by rw [hbel.cell (by simp)]; go_simp
      by_cases hlt : k < rs.length
      · obtain ⟨y0, y1⟩ := H.out k hlt
        have hbl := World.block_lt_of_cell? w ⟨b, off + k * 2, none⟩ y0
        simp only at hbl
        have z0 : wr.cell? ⟨b, off + k * 2, none⟩ = some (.int .i64 (rs[k]).1) := by rw [hbel.cell (by show b < _; omega)]; go_simp
        have z1 : wr.cell? ⟨b, off + k * 2 + 1, none⟩ = some (.int .i64 (rs[k]).2) := by rw [hbel.cell (by show b < _; omega)]; go_simp
        obtain ⟨v, hv⟩ : ∃ v, v = rs[k] := ⟨_, rfl⟩
        rw [← hv] at z0 z1
        have HV : Hid (v = rs[k]) := hv
        have hki : (k : Int) < rs.length := by omega
        clear hgk hno hbel y0 y1 hv
        by_cases e1 : v.1 = x.1
        · by_cases e2 : v.2 = x.2
          · have hvx : v = x := Prod.ext e1 e2
            go_wp2_with fail
            go_region
            go_wp2_with fail
            go_ret
            obtain ⟨_, q2, q3⟩ := HC.out
            refine ⟨?_, ((Below.refl _ _).alloc (Nat.le_refl _) _).trans ((q3.mono (by omega)).drew)⟩
            show Ending.returned (Value.int IntKind.i64 k) = _
            rw [idx_at k hlt (by rw [← HV.out, hvx]) q2]
          · go_wp2_with fail
            go_region
            go_wp2_with fail
            go_roundg (rs.length - (k + 1))
            case measure => have := HC.out.1; omega
            case rel =>
              obtain ⟨_, q2, q3⟩ := HC.out
              exact ⟨k + 1, by omega, by go_num, rfl, not_mem_take hlt q2 (fun e => e2 (by rw [HV.out, ← e])), q3.drew⟩
        · go_wp2_with fail
          go_region
          go_wp2_with fail
          go_roundg (rs.length - (k + 1))
          case measure => have := HC.out.1; omega
          case rel =>
            obtain ⟨_, q2, q3⟩ := HC.out
            exact ⟨k + 1, by omega, by go_num, rfl, not_mem_take hlt q2 (fun e => e1 (by rw [HV.out, ← e])), q3.drew⟩
      · clear hgk hno hbel
        go_wp2
        go_ret
        obtain ⟨_, q2, q3⟩ := HC.out
        refine ⟨?_, ((Below.refl _ _).alloc (Nat.le_refl _) _).trans (q3.mono (by omega))⟩
        rw [List.take_of_length_le (by omega)] at q2
        show Ending.returned (Value.int IntKind.i64 (-1)) = _
        rw [idx, if_neg q2]

/-! ### Bitsets -/

/-- A slice of n words. -/
def WordsIn (w : World) (b n : Nat) (u : Nat → Nat) : Prop := ∃ c : Array Value, w.heap[b]? = some (.cells c 91 (0, 0)) ∧ ∀ i, i < n → c[i]? = some (.int .u64 (u i)) ∧ u i < 2 ^ 64

/-- Bit g of the words u. -/
def bitU (u : Nat → Nat) (g : Nat) : Bool := (u (g / 64)).testBit (g % 64)

theorem info91 : (Try.prog.info? 91).map (fun i => (i.zero, i.size, i.bytes)) = some (some (.int .u64 0), 1, 8) := by kernel_rfl

theorem wraps_i64 (n : Int) (h₀ : 0 ≤ n) (h₁ : n < 2 ^ 63) : IntKind.i64.wrap n = n := by rw [IntKind.wrap_i64]; omega
theorem wraps_u64 (n : Int) (h₀ : 0 ≤ n) (h₁ : n < 2 ^ 64) : IntKind.u64.wrap n = n := by
  rw [IntKind.wrap_u64]
  have : (2 : Int) ^ 64 = 18446744073709551616 := by decide
  omega
theorem and63 (g : Nat) (hg : g < 2 ^ 60) : bits .and .i64 (g : Int) 63 = ((g % 64 : Nat) : Int) := by
  have h := bits_mask .i64 63 (by decide) wraps_i64 6 (by decide) (g : Int) (by omega) (by omega)
  have e : ((2 : Int) ^ 6 - 1) = 63 := by decide
  have e2 : ((2 : Int) ^ 6) = 64 := by decide
  rw [e, e2] at h
  rw [h]
  omega
theorem and1 (x : Nat) (hx : x < 2 ^ 64) : bits .and .u64 (x : Int) 1 = ((x % 2 : Nat) : Int) := by
  have h := bits_mask .u64 64 (by decide) wraps_u64 1 (by decide) (x : Int) (by omega) (by exact_mod_cast hx)
  have e : ((2 : Int) ^ 1 - 1) = 1 := by decide
  have e2 : ((2 : Int) ^ 1) = 2 := by decide
  rw [e, e2] at h
  rw [h]
  omega
theorem testBit_mod (x k : Nat) : x.testBit k = decide (x / 2 ^ k % 2 = 1) := by
  rw [Nat.testBit_eq_decide_div_mod_eq]
theorem or_bit (x k : Nat) (hx : x < 2 ^ 64) (hk : k < 64) : bits .or .u64 (x : Int) (((2 ^ k : Nat)) : Int) = ((x ||| 2 ^ k : Nat) : Int) :=
  (bits_nat .u64 64 (by decide) wraps_u64 x (2 ^ k) hx (Nat.pow_lt_pow_right (by decide) hk)).2

set_option maxHeartbeats 400000 in
theorem newBitset_calls (n : Nat) (hn : n ≤ 1048576) (w : World) :
    Calls Try.prog 36 #[.int .i64 n] w fun e w' => ∃ b, e = .returned (.slice (some ⟨b, 0, none⟩) ((n + 63) / 64) ((n + 63) / 64)) ∧ w.heap.size ≤ b ∧ Below w.heap.size w w' ∧ WordsIn w' b ((n + 63) / 64) (fun _ => 0) := by
  obtain ⟨i0, hi, hz0, hz1, hz2⟩ := info_parts info91
  go_enter Try.func36, Try.ntmps36
  go_wp2_with (at_make; refine wpList_make_cap _ rfl _ _ 119 rfl 91 i0 (.int .u64 0) 1 Try.underlying119 hi hz0 hz1 .i64 .i64 _ _ ((n + 63) / 64) ((n + 63) / 64) rfl rfl (by omega) (by omega) (Nat.le_refl _) (by rw [hz2]; omega) (by unfold maxLen; omega) ?_)
  go_ret
  exact ⟨_, rfl, Nat.le_refl _, (Below.refl _ _).alloc (Nat.le_refl _) _, _, new_block0 _ _ _ rfl, fun i h => ⟨(zrow_one (.int .u64 0) _ rfl).2 i (by omega), Nat.two_pow_pos 64⟩⟩

set_option maxHeartbeats 1000000 in
theorem bitAt_calls (w : World) (b n g : Nat) (u : Nat → Nat) (hw : WordsIn w b n u) (hn : n ≤ 1048576) (hg : g / 64 < n) :
    Calls Try.prog 17 #[.slice (some ⟨b, 0, none⟩) n n, .int .i64 g] w fun e w' => e = .returned (.bool (bitU u g)) ∧ w = w' := by
  obtain ⟨c, h1, h2⟩ := hw
  obtain ⟨h3, h4⟩ := h2 (g / 64) hg
  have hc := cell_of_block h1 h3
  have hand := and63 g (by omega)
  have hwr : IntKind.u64.wrap ((g % 64 : Nat) : Int) = ((g % 64 : Nat) : Int) := wraps_u64 _ (by omega) (by omega)
  obtain ⟨x, hx⟩ : ∃ x, x = u (g / 64) := ⟨_, rfl⟩
  rw [← hx] at hc h4
  have HX : Hid (x = u (g / 64) ∧ x < 2 ^ 64) := ⟨hx, h4⟩
  clear h1 h2 h3 hx h4
  have h6 : (g : Int) / 64 < n := by omega
  go_enter Try.func17, Try.ntmps17
  go_wp2
  go_ret
  refine ⟨?_, rfl⟩
  show Ending.returned (Value.bool (bits BinOp.and IntKind.u64 ((x : Int) / 2 ^ (g % 64)) 1 == 1)) = _
  obtain ⟨e1, e2⟩ := HX.out
  have e3 : ((x : Int) / 2 ^ (g % 64)) = ((x / 2 ^ (g % 64) : Nat) : Int) := by simp
  rw [e3, and1 _ (Nat.lt_of_le_of_lt (Nat.div_le_self _ _) e2), bitU, ← e1, testBit_mod]
  congr 2
  rw [Bool.eq_iff_iff]
  simp only [beq_iff_eq, decide_eq_true_eq]
  omega

set_option maxHeartbeats 1000000 in
theorem set_calls (w : World) (b n g x : Nat) (hn : n ≤ 1048576) (hg : g / 64 < n) (hx : x < 2 ^ 64) (hc : w.cell? ⟨b, g / 64, none⟩ = some (.int .u64 x)) (hf : w.frozen? ⟨b, g / 64, none⟩ = false) :
    Calls Try.prog 37 #[.slice (some ⟨b, 0, none⟩) n n, .int .i64 g] w fun e w' => e = .returned (.tuple #[]) ∧ Below w.heap.size (w.setCell ⟨b, g / 64, none⟩ (.int .u64 ((x ||| 2 ^ (g % 64) : Nat) : Int))) w' := by
  have h6 : (g : Int) / 64 < n := by omega
  have h7 : 0 ≤ (g : Int) / 64 := by omega
  have hand := and63 g (by omega)
  have hor := or_bit x (g % 64) hx (by omega)
  have h8 : ((g % 64 : Nat) : Int) < 64 := by omega
  have h9 : 0 ≤ ((g % 64 : Nat) : Int) := by omega
  clear hx
  go_enter Try.func37, Try.ntmps37
  go_region
  go_end0
  have e1 : IntKind.u64.wrap ((2 : Int) ^ (g % 64)) = ((2 ^ (g % 64) : Nat) : Int) := by
    rw [wraps_u64 _ (Int.pow_nonneg (by decide)) (by have := Nat.pow_lt_pow_right (a := 2) (by decide) (show g % 64 < 64 by omega); exact_mod_cast this)]
    simp
  rw [e1, hor]
  exact ⟨rfl, (Below.refl _ _).drew⟩

theorem WordsIn.set {w : World} {b n : Nat} {u : Nat → Nat} (h : WordsIn w b n u) (g : Nat) :
    WordsIn (w.setCell ⟨b, g / 64, none⟩ (.int .u64 ((u (g / 64) ||| 2 ^ (g % 64) : Nat) : Int))) b n (fun i => if i = g / 64 then u i ||| 2 ^ (g % 64) else u i) := by
  obtain ⟨c, h1, h2⟩ := h
  refine ⟨_, block_set h1 _, fun i hi => ?_⟩
  obtain ⟨h3, h4⟩ := h2 i hi
  by_cases e : g / 64 = i
  · subst e
    rw [Array.getElem?_setIfInBounds_self_of_lt (Array.getElem?_eq_some_iff.1 h3).1]
    simp only [if_true]
    exact ⟨trivial, Nat.or_lt_two_pow h4 (Nat.pow_lt_pow_right (by decide) (by omega))⟩
  · have e' : ¬ i = g / 64 := fun e2 => e e2.symm
    rw [Array.getElem?_setIfInBounds_ne e]
    simp only [if_neg e']
    exact ⟨h3, h4⟩

theorem bitU_set (u : Nat → Nat) (g k : Nat) : bitU (fun i => if i = g / 64 then u i ||| 2 ^ (g % 64) else u i) k = (bitU u k || decide (k = g)) := by
  unfold bitU
  by_cases e : k / 64 = g / 64
  · simp only [if_pos e]
    rw [Nat.testBit_or, Nat.testBit_two_pow]
    congr 1
    rw [decide_eq_decide]
    omega
  · simp only [if_neg e]
    have : ¬ k = g := fun h => e (by rw [h])
    simp [this]

theorem WordsIn.later {w w' : World} {b n : Nat} {u : Nat → Nat} (h : WordsIn w b n u) (hb : Below w.heap.size w w') : WordsIn w' b n u := by
  obtain ⟨c, h1, h2⟩ := h
  exact ⟨c, (hb.block _ (lt_of_heap h1)).trans h1, h2⟩

theorem setW_calls (w : World) (b n g : Nat) (u : Nat → Nat) (hn : n ≤ 1048576) (hg : g / 64 < n) (hw : WordsIn w b n u) :
    Calls Try.prog 37 #[.slice (some ⟨b, 0, none⟩) n n, .int .i64 g] w fun e w' => e = .returned (.tuple #[]) ∧ WordsIn w' b n (fun i => if i = g / 64 then u i ||| 2 ^ (g % 64) else u i) ∧ ∃ v, Below w.heap.size (w.setCell ⟨b, g / 64, none⟩ v) w' := by
  obtain ⟨c, h1, h2⟩ := hw
  obtain ⟨h3, h4⟩ := h2 (g / 64) hg
  refine (set_calls w b n g _ hn hg h4 (cell_of_block h1 h3) (free_of_block h1)).mono ?_
  rintro e w' ⟨rfl, hb⟩
  refine ⟨rfl, ((WordsIn.set ⟨c, h1, h2⟩ g).later ?_), _, hb⟩
  rw [show (w.setCell ⟨b, g / 64, none⟩ (.int .u64 ((u (g / 64) ||| 2 ^ (g % 64) : Nat) : Int))).heap.size = w.heap.size by simp [World.setCell]]
  exact hb

/-! ### Lists of refs -/

theorem RefsIn.later {w w' : World} {a : Option Addr} {rs : List (Int × Int)} (h : RefsIn w a rs) (hb : Below w.heap.size w w') : RefsIn w' a rs := by
  rcases h with h | ⟨b, off, ha, h⟩
  · exact Or.inl h
  · refine Or.inr ⟨b, off, ha, fun i hi => ?_⟩
    obtain ⟨h1, h2⟩ := h i hi
    exact ⟨(hb.cell (World.block_lt_of_cell? w ⟨b, off + i * 2, none⟩ h1)).trans h1, (hb.cell (World.block_lt_of_cell? w ⟨b, off + i * 2 + 1, none⟩ h2)).trans h2⟩

/-- A ref whose set is one of the n. -/
def inN (n : Nat) (x : Int × Int) : Bool := decide (0 ≤ x.1) && decide (x.1 < n)

set_option maxHeartbeats 1000000 in
theorem range_calls (w : World) (a : Option Addr) (cap n : Nat) (rs : List (Int × Int)) (h : RefsIn w a rs) (hl : rs.length ≤ 1048576) :
    Calls Try.prog 26 #[.slice a rs.length cap, .int .i64 n] w fun e w' => e = .returned (.bool (rs.all (inN n))) ∧ w = w' := by
  rcases h with rfl | ⟨b, off, rfl, h⟩
  · go_enter Try.func26, Try.ntmps26
    go_wp2_with fail
    refine wp_loop_rounds 1 ?_
    rw [rounds_succ]
    go_wp2
    go_ret
    exact ⟨rfl, rfl⟩
  · have H : Hid (∀ i (h : i < rs.length), w.cell? ⟨b, off + i * 2, none⟩ = some (.int .i64 (rs[i]).1) ∧ w.cell? ⟨b, off + i * 2 + 1, none⟩ = some (.int .i64 (rs[i]).2)) := h
    clear h
    go_enter Try.func26, Try.ntmps26
    go_wp2_with fail
    go_loopg [5] rs.length (fun j i wr => ∃ k : Nat, k ≤ rs.length ∧ i = .int .i64 k ∧ j = rs.length - k ∧ (∀ i (h : i < rs.length), i < k → inN n rs[i] = true) ∧ w = wr)
    case atStart => exact ⟨0, Nat.zero_le _, rfl, rfl, fun i _ h0 => absurd h0 (by omega), rfl⟩
    case round =>
      obtain ⟨k, hk, rfl, hgk, hall, rfl⟩ := hrel
      have HA : Hid ((∀ i (h : i < rs.length), i < k → inN n rs[i] = true) ∧ gk = rs.length - k) := ⟨hall, hgk⟩
      clear hall hgk
      by_cases hlt : k < rs.length
      · obtain ⟨x0, _⟩ := H.out k hlt
        obtain ⟨v, hv⟩ : ∃ v, v = rs[k] := ⟨_, rfl⟩
        rw [← hv] at x0
        have hki : (k : Int) < rs.length := by omega
        have HB : Hid (v = rs[k] ∧ (inN n v = false → rs.all (inN n) = false)) := ⟨hv, fun h0 => by
          rw [List.all_eq_false]
          exact ⟨v, by rw [hv]; exact List.getElem_mem hlt, by simp [h0]⟩⟩
        clear hv
        go_wp2
        all_goals first
          | (go_ret; exact ⟨by rw [HB.out.2 (by simp [inN]; omega)]; rfl, rfl⟩)
          | (go_roundg (rs.length - (k + 1))
             case measure => have := HA.out.2; omega
             case rel =>
               refine ⟨k + 1, by omega, by go_num, rfl, fun i hi hik => ?_, rfl⟩
               by_cases e : i = k
               · subst e
                 rw [← HB.out.1]
                 simp [inN]
                 omega
               · exact HA.out.1 i hi (by omega))
      · go_wp2
        go_ret
        have : rs.all (inN n) = true := by
          rw [List.all_eq_true]
          intro y hy
          obtain ⟨i, hi, rfl⟩ := List.getElem_of_mem hy
          exact HA.out.1 i hi (by omega)
        exact ⟨by rw [this]; rfl, rfl⟩
end Go.Proofs.Qxb6612720a
