import Derived.Test.Qxb6602500aWait
namespace Go.Proofs.Qxb6602500a
open Go.RowKit
set_option maxRecDepth 100000

/-- A new row of n cells' worth of zeros. -/
def zrow (z : Value) (n : Nat) : Array Value := madeCells z.cells n

/-- 'make([]T, n)', the world written out. -/
theorem wpList_make_exact (w : World) {ops : Array Oper} {rest : List Oper} {o : Oper} {a : Act} {Q : Exit → Act → World → Prop}
    (hg : o.guard = none) (l c : Operand) (t : TypeId) (hop : o.op = Op.makeSlice t l c) (e : TypeId) (i : TypeInfo) (z : Value) (size : Nat) (h1 : Try.prog.underlying t = some (.slice e)) (h2 : Try.prog.info? e = some i) (h3 : i.zero = some z) (h4 : i.size = size)
    (kl kc : IntKind) (L C : Int) (n : Nat) (hl : a.eval l = .int kl L) (hc : a.eval c = .int kc C) (hL : L = (n : Int)) (hC : C = (n : Int)) (b2 : i.bytes * n ≤ 281474976710656) (b3 : n ≤ maxLen)
    (hK : wpList Try.prog ops Q rest (a.put o.dst (.slice (some ⟨w.heap.size, 0, none⟩) n n)) (w.alloc (.cells (zrow z (n * size)) e))) :
    wpList Try.prog ops Q (o :: rest) a w := by
  refine wpList_plain hg fun K hK' => ?_
  subst hL hC h4
  have hb' : (i.bytes : Int) * (n : Int) ≤ 281474976710656 := by
    have h : ((i.bytes * n : Nat) : Int) ≤ 281474976710656 := by omega
    rwa [Int.natCast_mul] at h
  have hr := run_make (P := Try.prog) w t e i z h1 h2 h3 kl kc n n (by omega) (Int.le_refl _) hb' (by unfold maxLen at b3; omega)
  unfold Oper.wp
  simp [execOp, hop, hl, hc, hr, Result.andThen]
  exact hK' _ _ hK

theorem zrow_one (z : Value) (n : Nat) (hz : z.cells = #[z]) : (zrow z n).size = n ∧ ∀ i, i < n → (zrow z n)[i]? = some z := by
  have h : (zrow z n).toList = List.replicate n z := by unfold zrow; rw [hz]; exact toList_madeCells_one z n
  refine ⟨by rw [← Array.length_toList, h]; simp, fun i hi => ?_⟩
  rw [← Array.getElem?_toList, h]
  simp [hi]

theorem new_block0 (X : World) (O : Obj) (n : Nat) (h : X.heap.size = n) : (X.alloc O).heap[n]? = some O := by
  subst h
  exact heap_alloc_new X O

theorem info106 : (Try.prog.info? 106).map (fun i => (i.zero, i.size, i.bytes)) = some (some (.pointer none), 1, 8) := by kernel_rfl
theorem info112 : (Try.prog.info? 112).map (fun i => (i.zero, i.size, i.bytes)) = some (some (.pointer none), 1, 8) := by kernel_rfl
theorem info113 : (Try.prog.info? 113).map (fun i => (i.zero, i.size, i.bytes)) = some (some (.pointer none), 1, 8) := by kernel_rfl

set_option maxHeartbeats 400000 in
theorem newLost_calls (size : Nat) (hs : size ≤ 65536) (w : World) :
    Calls Try.prog 58 #[.int .i64 size] w fun e w' => ∃ b, e = .returned (.agg #[.slice (some ⟨b, 0, none⟩) ((size + 31) / 32) ((size + 31) / 32)]) ∧ w.heap.size ≤ b ∧ Below w.heap.size w w' ∧
      ∃ a : Array Value, w'.heap[b]? = some (.cells a 106 (0, 0)) ∧ a.size = (size + 31) / 32 ∧ ∀ i, i < (size + 31) / 32 → a[i]? = some (.pointer none) := by
  obtain ⟨i0, hi, hz0, hz1, hz2⟩ := info_parts info106
  go_enter Try.func58, Try.ntmps58
  go_wp2_with (at_make; refine wpList_make_exact _ rfl _ _ 87 rfl 106 i0 (.pointer none) 1 Try.underlying87 hi hz0 hz1 .i64 .i64 _ _ ((size + 31) / 32) rfl rfl (by omega) (by omega) (by rw [hz2]; omega) (by unfold maxLen; omega) ?_)
  refine bodyPost_ret (v := .agg #[.slice (some ⟨w.heap.size + 1, 0, none⟩) ((size + 31) / 32) ((size + 31) / 32)]) (by simp [results, Try.results58, go_sem]) rfl ⟨_, rfl, by omega, ((Below.refl _ _).alloc (Nat.le_refl _) _).alloc (by simp) _, _, ?_, zrow_one (.pointer none) _ rfl⟩
  exact new_block0 _ _ _ (by simp)

set_option maxHeartbeats 400000 in
theorem newU64_calls (size : Nat) (hs : size ≤ 65536) (w : World) :
    Calls Try.prog 57 #[.int .i64 size] w fun e w' => ∃ b, e = .returned (.agg #[.slice (some ⟨b, 0, none⟩) ((size + 31) / 32) ((size + 31) / 32)]) ∧ Below w.heap.size w w' := by
  obtain ⟨i0, hi, hz0, hz1, hz2⟩ := info_parts info112
  go_enter Try.func57, Try.ntmps57
  go_wp2_with (at_make; refine wpList_make_exact _ rfl _ _ 80 rfl 112 i0 (.pointer none) 1 Try.underlying80 hi hz0 hz1 .i64 .i64 _ _ ((size + 31) / 32) rfl rfl (by omega) (by omega) (by rw [hz2]; omega) (by unfold maxLen; omega) ?_)
  exact bodyPost_ret (v := .agg #[.slice (some ⟨w.heap.size + 1, 0, none⟩) ((size + 31) / 32) ((size + 31) / 32)]) (by simp [results, Try.results57, go_sem]) rfl ⟨_, rfl, ((Below.refl _ _).alloc (Nat.le_refl _) _).alloc (by simp) _⟩

set_option maxHeartbeats 400000 in
theorem newBool_calls (size : Nat) (hs : size ≤ 65536) (w : World) :
    Calls Try.prog 59 #[.int .i64 size] w fun e w' => ∃ b, e = .returned (.agg #[.slice (some ⟨b, 0, none⟩) ((size + 31) / 32) ((size + 31) / 32)]) ∧ Below w.heap.size w w' := by
  obtain ⟨i0, hi, hz0, hz1, hz2⟩ := info_parts info113
  go_enter Try.func59, Try.ntmps59
  go_wp2_with (at_make; refine wpList_make_exact _ rfl _ _ 83 rfl 113 i0 (.pointer none) 1 Try.underlying83 hi hz0 hz1 .i64 .i64 _ _ ((size + 31) / 32) rfl rfl (by omega) (by omega) (by rw [hz2]; omega) (by unfold maxLen; omega) ?_)
  exact bodyPost_ret (v := .agg #[.slice (some ⟨w.heap.size + 1, 0, none⟩) ((size + 31) / 32) ((size + 31) / 32)]) (by simp [results, Try.results59, go_sem]) rfl ⟨_, rfl, ((Below.refl _ _).alloc (Nat.le_refl _) _).alloc (by simp) _⟩

theorem BSt.setQ {w0 wr : World} {q mb ab nb n : Nat} {D : DataW Value} {m : WMap} (h : BSt w0 q mb ab nb n D m wr) {j : Nat} (h6 : j ≠ 6) (h7 : j ≠ 7) (v : Value) : BSt w0 q mb ab nb n D m (wr.setCell ⟨q, j, none⟩ v) := by
  obtain ⟨qc, hq, hq6, hq7⟩ := h.qc
  have other : ∀ (b : Nat) (c : Array Value) (t : TypeId), wr.heap[b]? = some (.cells c t (0, 0)) → t ≠ 91 → (wr.setCell ⟨q, j, none⟩ v).heap[b]? = wr.heap[b]? := fun b c t hb ht => Below.heap_setCell _ _ _ _ (fun e => by
    simp only at e
    rw [e, hq] at hb
    cases hb
    exact ht rfl)
  refine ⟨⟨qc.setIfInBounds j v, block_set hq v, ?_, ?_⟩, h.lost.kept (fun b hb => ?_), ?_, h.dom, fun e he => ?_, h.inj, h.nodup, h.below.setCell h.news.2.2 _, h.news⟩
  · rw [Array.getElem?_setIfInBounds_ne h6]; exact hq6
  · rw [Array.getElem?_setIfInBounds_ne h7]; exact hq7
  · obtain ⟨c, t, h1, h2⟩ := h.lost.tag hb
    exact other b c t h1 (by rcases h2 with rfl | rfl <;> decide)
  · obtain ⟨es, clock, k1, rest⟩ := h.own
    refine ⟨es, clock, ?_, rest⟩
    rw [Below.heap_setCell _ _ _ _ (fun e => ?_), k1]
    simp only at e
    rw [e, hq] at k1
    cases k1
  · obtain ⟨h1, u, bs, h2, h3⟩ := h.at_ e he
    refine ⟨h1, u, bs, h2, h3.kept (fun g hg => ?_) (fun b c hb' => other b c 99 hb' (by decide))⟩
    obtain ⟨g', cap, c, e1, _, e3, _⟩ := h3.block
    rw [e1] at hg
    simp [Value.ownBlock] at hg
    subst hg
    exact other _ c 53 e3 (by decide)

theorem new_bst {w w1 w2 : World} {b2 nb : Nat} {c : Array Value} (hb1 : Below w.heap.size w w1) (hn2 : (w1.alloc (.map #[] 0)).heap.size ≤ b2) (hb2 : Below (w1.alloc (.map #[] 0)).heap.size (w1.alloc (.map #[] 0)) w2)
    (ha2 : ∃ a : Array Value, w2.heap[b2]? = some (.cells a 106 (0, 0)) ∧ a.size = nb ∧ ∀ i, i < nb → a[i]? = some (.pointer none)) (h6 : c[6]? = some (.map (some w1.heap.size))) (h7 : c[7]? = some (.slice (some ⟨b2, 0, none⟩) nb nb)) :
    BSt w w2.heap.size w1.heap.size b2 nb 0 (.map []) [] (w2.alloc (.cells c 91)) := by
  have hs1 := hb1.size
  have hs2 := hb2.size
  simp at hn2 hs2
  have hbw : Below w2.heap.size w2 (w2.alloc (.cells c 91)) := (Below.refl _ _).alloc (Nat.le_refl _) _
  obtain ⟨a, ha, ha1, ha3⟩ := ha2
  refine ⟨⟨c, heap_alloc_new w2 _, h6, h7⟩, ⟨⟨a, (hbw.block _ (lt_of_heap ha)).trans ha, ha1, ha3⟩, fun i s _ h => (by cases h), fun i _ _ j _ => rfl, fun i j s _ _ h => (by cases h)⟩, ?_, fun l hl => ?_, fun e he => (by cases he), fun e he => (by cases he), by simp, ?_, ?_⟩
  · have h1 := World.ownsMap_made (H := Value) w1 Try.prog 73 rawR
    obtain ⟨es, clock, k1, rest⟩ := h1
    exact ⟨es, clock, (hbw.block _ (by omega)).trans ((hb2.block _ (by simp)).trans k1), rest⟩
  · simp [Maps.has] at hl
  · exact (hb1.trans (((Below.refl _ w1).alloc hs1 _).trans (hb2.mono (by simp; omega)))).trans (hbw.mono (by omega))
  · exact ⟨hs1, by omega, by omega⟩

set_option maxHeartbeats 1000000 in
theorem newQueue_calls (size : Nat) (self : Int) (causal : Bool) (hs : size ≤ 65536) (w : World) :
    Calls Try.prog 51 #[.int .i64 size, .int .i64 self, .bool causal] w fun e w' => ∃ q mb ab, e = .returned (.pointer (some ⟨q, 0, none⟩)) ∧ BSt w q mb ab ((size + 31) / 32) 0 (.map []) [] w' := by
  have hmm := @run_makeMap Try.prog
  cases causal
  · go_enter Try.func51, Try.ntmps51
    go_wp2_with (first | (go_at_call 57; refine (newU64_calls size hs _).mono ?_; rintro e w1 ⟨b1, rfl, hb1⟩) | (go_at_call 58; refine (newLost_calls size hs _).mono ?_; rintro e w2 ⟨b2, rfl, hn2, hb2, ha2⟩))
    go_ret
    exact ⟨_, _, _, rfl, new_bst hb1 hn2 hb2 ha2 rfl rfl⟩
  · go_enter Try.func51, Try.ntmps51
    go_wp2_with fail
    refine (newU64_calls size hs _).mono ?_
    rintro e w1 ⟨b1, rfl, hb1⟩
    go_wp2_with fail
    refine (newLost_calls size hs _).mono ?_
    rintro e w2 ⟨b2, rfl, hn2, hb2, ha2⟩
    go_wp2_with fail
    refine (newU64_calls size hs _).mono ?_
    rintro e w3 ⟨b3, rfl, hb3⟩
    obtain ⟨hc3, hf3⟩ := bcell hb3
    have hz3 : w2.heap.size < w3.heap.size := by have := hb3.size; simp at this; omega
    go_wp2_with fail
    refine (newBool_calls size hs _).mono ?_
    rintro e w4 ⟨b4, rfl, hb4⟩
    obtain ⟨hc4, hf4⟩ := bcell hb4
    have hz4 : w2.heap.size < w4.heap.size := by have := hb4.size; simp at this; omega
    go_wp2
    go_ret
    exact ⟨_, _, _, rfl, (((((new_bst hb1 hn2 hb2 ha2 rfl rfl).step hb3).setQ (by decide) (by decide) _).step hb4).setQ (by decide) (by decide) _)⟩

set_option maxHeartbeats 400000 in
theorem newZZ_calls (size : Nat) (self : Int) (causal : Bool) (hs : size ≤ 65536) (w : World) :
    Calls Try.prog 34 #[.int .i64 size, .int .i64 self, .bool causal] w fun e w' => ∃ q mb ab, e = .returned (.pointer (some ⟨q, 0, none⟩)) ∧ BSt w q mb ab ((size + 31) / 32) 0 (.map []) [] w' := by
  go_enter Try.func34, Try.ntmps34
  go_wp2_with (go_at_call 51; refine (newQueue_calls size self causal hs _).mono ?_; rintro e w1 ⟨q, mb, ab, rfl, hb⟩)
  go_ret
  exact ⟨q, mb, ab, rfl, hb⟩

set_option maxHeartbeats 400000 in
theorem newWaiting_calls (o : Nat) (s : Int) (w : World) :
    Calls Try.prog 29 #[.int .i64 o, .int .u64 s] w fun e w' => ∃ b, e = .returned (.pointer (some ⟨b, 0, none⟩)) ∧ Bx w' b (o, s) ∧ Below w.heap.size w w' := by
  go_enter Try.func29, Try.ntmps29
  go_wp2
  go_ret
  exact ⟨_, rfl, ⟨_, heap_alloc_new w _, rfl, rfl⟩, (Below.refl _ _).alloc (Nat.le_refl _) _⟩

set_option maxHeartbeats 400000 in
theorem waitZZ_calls {w0 wr : World} {q mb ab nb n : Nat} {D : DataW Value} {m : WMap} (hnb : nb ≤ 1000000) (h : BSt w0 q mb ab nb n D m wr) (hn : n ≤ 1000000) (hlen : ∀ e ∈ m, e.2.length ≤ 1000000)
    (ko : Nat) (ks : Int) (hk : wfN (ko, ks)) (hko : ko < 32 * nb) (bm : Nat) (x : Nat × Int) (hbx : Bx wr bm x) :
    Calls Try.prog 30 #[.pointer (some ⟨q, 0, none⟩), .pointer (some ⟨bm, 0, none⟩), .int .i64 ko, .int .u64 ks] wr fun e w' => e = .returned (.tuple #[]) ∧ ∃ D', BSt w0 q mb ab nb (n + 1) D' (push m (ko, ks) x) w' := by
  have HC : Hid (Calls Try.prog 50 #[.pointer (some ⟨q, 0, none⟩), .pointer (some ⟨bm, 0, none⟩), .agg #[.int .i64 ko, .int .u64 ks]] wr fun e w' => e = .returned (.tuple #[]) ∧ ∃ D', BSt w0 q mb ab nb (n + 1) D' (push m (ko, ks) x) w') := wait_calls hnb h hn hlen ko ks hk hko bm x hbx
  clear h hlen hk hbx
  go_enter Try.func30, Try.ntmps30
  go_wp2_with (go_at_call 50; refine HC.out.mono ?_; rintro e w1 ⟨rfl, hb⟩)
  go_end0
  exact ⟨rfl, hb⟩

set_option maxHeartbeats 400000 in
theorem loseZZ_calls {w : World} {q mb ab nb n : Nat} {sub : Nat → Option Nat} {L : Nat → Int × Int} {D : DataW Value} {m : WMap} (hnb : nb ≤ 1000000) (h : LSt w q mb ab nb n sub sub L D m w) (hgm : GoodM nb m) (htot : total m ≤ 1000000)
    (o : Nat) (s : Int) (hk : GoodK nb (o, s)) :
    Calls Try.prog 14 #[.pointer (some ⟨q, 0, none⟩), .int .i64 o, .int .u64 s] w fun e w' => e = .returned (.tuple #[]) ∧
      ∃ sub' L' D' m', LSt w q mb ab nb n sub sub' L' D' m' w' ∧ GoodM nb m' ∧ total m' ≤ total m ∧ LoseRel L (look m) (o, s) L' (look m') := by
  have HC : Hid (Calls Try.prog 40 #[.pointer (some ⟨q, 0, none⟩), .agg #[.int .i64 o, .int .u64 s]] w fun e w' => e = .returned (.tuple #[]) ∧ ∃ sub' L' D' m', LSt w q mb ab nb n sub sub' L' D' m' w' ∧ GoodM nb m' ∧ total m' ≤ total m ∧ LoseRel L (look m) (o, s) L' (look m')) := lose_calls hnb h hgm htot (o, s) hk
  clear h hgm htot hk
  go_enter Try.func14, Try.ntmps14
  go_wp2_with (go_at_call 40; refine HC.out.mono ?_; rintro e w1 ⟨rfl, hb⟩)
  go_end0
  exact ⟨rfl, hb⟩
end Go.Proofs.Qxb6602500a
