import Derived.Test.Qxb6602500aBst
import Derived.Test.Qxb6602500aLose
namespace Go.Proofs.Qxb6602500a
open Go.RowKit
set_option maxRecDepth 100000

set_option maxHeartbeats 400000 in
theorem forGood_zero (s : Int) (w : World) :
    Calls Try.prog 56 #[.agg #[.int .u64 0, .int .u64 0], .int .u64 s] w fun e w' => e = .returned (.bool false) ∧ Below w.heap.size w w' := by
  have h0 : hasB 0 0 s = false := by simp [hasB]
  go_enter Try.func56, Try.ntmps56
  go_wp2_with (go_at_call 53; refine (has_any _ _ _ _).mono ?_; rintro e w' ⟨rfl, hb⟩)
  go_ret
  exact ⟨rfl, ((Below.refl _ _).alloc (Nat.le_refl _) _).trans (hb.mono (by simp))⟩

theorem info53 : (Try.prog.info? 53).map (fun i => (i.zero, i.size, i.bytes)) = some (some (.pointer none), 1, 8) := by kernel_rfl

/-- Of the blocks of cells in w all but rows of pointers are as they were. -/
def NR (w w' : World) : Prop := ∀ (b : Nat) (c : Array Value) (t : TypeId), w.heap[b]? = some (.cells c t (0, 0)) → t ≠ 53 → w'.heap[b]? = some (.cells c t (0, 0))
theorem NR.refl (w : World) : NR w w := fun _ _ _ h _ => h
theorem NR.drew (w : World) : NR w w.drew := fun _ _ _ h _ => h
theorem NR.alloc {w w' : World} (h : NR w w') (o : Obj) : NR w (w'.alloc o) := fun b c t hb ht => (Below.heap_alloc w' o b (lt_of_heap (h b c t hb ht))).trans (h b c t hb ht)
theorem NR.allocDrew {w w' : World} (h : NR w w') (o : Obj) : NR w (w'.alloc o).drew := h.alloc o
theorem NR.turned {w w' w'' : World} {mb : Nat} (h : NR w w') (ht : w'.mapTurned w'' mb) : NR w w'' := fun b c t hb hne => by
  have hg := ht.grown
  obtain ⟨es, clock, _, _, hm, _⟩ := ht
  exact (hg.block b (lt_of_heap (h b c t hb hne)) (fun e => by cases e; rw [h _ c t hb hne] at hm; cases hm)).trans (h b c t hb hne)
theorem NR.grown {w w' w'' : World} {row : Option Nat} (h : NR w w') (hg : w'.grownBy w'' row) (hr : ∀ g, row = some g → ∃ c, w'.heap[g]? = some (.cells c 53 (0, 0))) : NR w w'' := fun b c t hb hne =>
  (hg.block b (lt_of_heap (h b c t hb hne)) (fun e => by
    obtain ⟨c', h2⟩ := hr b e.symm
    rw [h b c t hb hne] at h2
    cases h2
    exact hne rfl)).trans (h b c t hb hne)

/-- THE END OF 'wait': wA: where the append was made. -/
theorem wait_end {w0 w4 wA w6 w7 : World} {q mb ab nb n : Nat} {D : DataW Value} {m : WMap} (h : BSt w0 q mb ab nb n D m w4) {k x : Nat × Int} (hk : wfN k) {v0 : Value} {len : Nat} {xs : List Value} (hv0 : D.atKey (kN k) (.held (.slice none 0 0)) = .held v0) (hrow : w4.ownsRow w0.heap.size 53 1 v0 len xs)
    (hl0 : ∀ ks, look m k = some ks → len = ks.length ∧ ∃ bs, RowOf w4 w0.heap.size v0 ks bs ∧ xs = ptrs bs) (hl1 : look m k = none → len = 0 ∧ xs = [] ∧ v0 = .slice none 0 0) {g cap bm : Nat} (hbx : Bx w4 bm x)
    (hA : ∀ (b : Nat) (c : Array Value) (t : TypeId), w4.heap[b]? = some (.cells c t (0, 0)) → wA.heap[b]? = some (.cells c t (0, 0))) (hAb : Below w0.heap.size w4 wA)
    (hown : w6.ownsRow w0.heap.size 53 1 (.slice (some ⟨g, 0, none⟩) (len + 1) cap) (len + 1) (xs ++ [.pointer (some ⟨bm, 0, none⟩)])) (hgrow : wA.grownBy w6 v0.ownBlock) (hat : v0.ownBlock = some g ∨ g = wA.heap.size)
    (hT : w6.mapTurned w7 mb) (hO : w7.ownsMap Try.prog 73 rawR mb (n + 1) (D.put (kN k) (.held (.slice (some ⟨g, 0, none⟩) (len + 1) cap)))) :
    ∃ D', BSt w0 q mb ab nb (n + 1) D' (push m k x) w7 := by
  have hg := hT.grown
  obtain ⟨es, clock, _, _, hm6, _⟩ := hT
  have k7 : ∀ (b : Nat) (c : Array Value) (t : TypeId), w6.heap[b]? = some (.cells c t (0, 0)) → w7.heap[b]? = some (.cells c t (0, 0)) := fun b c t hb => (hg.block b (lt_of_heap hb) (fun e => by cases e; rw [hb] at hm6; cases hm6)).trans hb
  refine ⟨_, h.pushed hk hv0 hl0 hl1 hbx hO ?_ ?_ (fun b c t hb hne => k7 b c t ((hgrow.block b (lt_of_heap (hA b c t hb)) (fun e => hne e.symm)).trans (hA b c t hb))) ?_⟩
  · refine ⟨hown.1, ?_⟩
    rcases hown.2 with ⟨h1, _⟩ | ⟨g', cap', cur, h1, h2, h3, h4⟩
    · cases h1
    · cases h1
      exact Or.inr ⟨g, cap, cur, rfl, h2, k7 _ _ _ h3, h4⟩
  · rcases hat with h1 | h1
    · exact Or.inl h1
    · exact Or.inr (by rw [h1]; exact hAb.size)
  · have hs := h.below.size
    refine (hAb.grown hgrow (Nat.le_trans hs hAb.size) (fun j hj => (hrow.lt j hj).1)).grown hg (Nat.le_trans hs (Nat.le_trans hAb.size hgrow.size)) (fun j hj => ?_)
    cases hj
    exact h.news.1

theorem BSt.row {w0 wr : World} {q mb ab nb n : Nat} {D : DataW Value} {m : WMap} (h : BSt w0 q mb ab nb n D m wr) {k : Nat × Int} (hk : wfN k) :
    ∃ (v0 : Value) (len : Nat) (xs : List Value), D.atKey (kN k) (.held (.slice none 0 0)) = .held v0 ∧ wr.ownsRow w0.heap.size 53 1 v0 len xs ∧ (∀ ks, look m k = some ks → len = ks.length ∧ ∃ bs, RowOf wr w0.heap.size v0 ks bs ∧ xs = ptrs bs) ∧ (look m k = none → len = 0 ∧ xs = [] ∧ v0 = .slice none 0 0) ∧
      (∀ g, v0.ownBlock = some g → ∃ c, wr.heap[g]? = some (.cells c 53 (0, 0))) := by
  cases hl : look m k with
  | none =>
    have hh : Maps.has D (kN k) = false := by
      cases hh : Maps.has D (kN k)
      · rfl
      · obtain ⟨e, he, e1⟩ := h.dom _ hh
        exact absurd (kN_inj hk (h.at_ e he).1 e1).symm (look_none.1 hl e he)
    exact ⟨.slice none 0 0, 0, [], Maps.atKey_of_not_has hh _, World.ownsRow_nil _ _ _ _, fun ks e => (by cases e), fun _ => ⟨rfl, rfl, rfl⟩, fun g e => (by cases e)⟩
  | some ks =>
    obtain ⟨h1, v, bs, h2, h3⟩ := h.at_ _ ((look_some h.nodup).1 hl)
    refine ⟨v, ks.length, ptrs bs, h2 _, h3.own, fun ks' e => ?_, fun e => (by cases e), fun g e => ?_⟩
    · cases e
      exact ⟨rfl, bs, h3, rfl⟩
    · obtain ⟨g', cap, c, e1, _, e3, _⟩ := h3.block
      rw [e1] at e
      simp [Value.ownBlock] at e
      subst e
      exact ⟨c, e3⟩

set_option maxHeartbeats 4000000 in
theorem wait_calls {w0 wr : World} {q mb ab nb n : Nat} {D : DataW Value} {m : WMap} (hnb : nb ≤ 1000000) (h : BSt w0 q mb ab nb n D m wr) (hn : n ≤ 1000000) (hlen : ∀ e ∈ m, e.2.length ≤ 1000000)
    (ko : Nat) (ks : Int) (hk : wfN (ko, ks)) (hko : ko < 32 * nb) (bm : Nat) (x : Nat × Int) (hbx : Bx wr bm x) :
    Calls Try.prog 50 #[.pointer (some ⟨q, 0, none⟩), .pointer (some ⟨bm, 0, none⟩), .agg #[.int .i64 ko, .int .u64 ks]] wr fun e w' => e = .returned (.tuple #[]) ∧ ∃ D', BSt w0 q mb ab nb (n + 1) D' (push m (ko, ks) x) w' := by
  obtain ⟨hq6, hq7, hlq⟩ := h.qc.cells
  obtain ⟨hlq1, hlq2, hlq3⟩ := lts hlq
  have h00 : hasB 0 0 ks = false := by simp [hasB]
  have A0 : Aside (BSt w0 q mb ab nb n D m wr ∧ (∀ e ∈ m, e.2.length ≤ 1000000) ∧ wfN (ko, ks) ∧ Bx wr bm x) := ⟨h, hlen, hk, hbx⟩
  have HS : Hid (∀ w', Below (wr.heap.size + 1) (wr.alloc (.cells #[.int .i64 ko, .int .u64 ks] 73)) w' → (Below (wr.heap.size + 1) (wr.alloc (.cells #[.int .i64 ko, .int .u64 ks] 73)) w' ∧ w'.cell? ⟨q, 7, none⟩ = some (.slice (some ⟨ab, 0, none⟩) nb nb) ∧ w'.cell? ⟨wr.heap.size, 0, none⟩ = some (.int .i64 ko))) := by
    intro w' hb
    refine ⟨hb, ?_, ?_⟩
    · rw [hb.cell (by simp; omega)]; go_simp
    · rw [hb.cell (by simp)]; go_simp
  have HL : Hid (∀ w', Below (wr.heap.size + 1) (wr.alloc (.cells #[.int .i64 ko, .int .u64 ks] 73)) w' → Lost w' ab nb (fun _ => none) (fun _ => (0, 0))) := fun w' hb => (h.lost.below ((Below.refl _ _).alloc (Nat.le_refl _) _)).belowN (by simp) hb
  have HN : Hid (wr.heap.size + 1 ≤ (wr.alloc (.cells #[.int .i64 ko, .int .u64 ks] 73)).heap.size) := by unfold Hid; simp
  clear h hlen hk hbx
  go_enter Try.func50, Try.ntmps50
  go_upto_region 1 with fail
  go_cut [6] (fun v6 wc => ∃ fb, v6 = .pointer (some ⟨fb, 0, none⟩) ∧ Below (wr.heap.size + 1) (wr.alloc (.cells #[.int .i64 ko, .int .u64 ks] 73)) wc ∧ wc.cell? ⟨fb, 0, none⟩ = some (.int .u64 0) ∧ wc.cell? ⟨fb, 1, none⟩ = some (.int .u64 0))
  case first =>
    go_region_held3 (fun w' => Below (wr.heap.size + 1) (wr.alloc (.cells #[.int .i64 ko, .int .u64 ks] 73)) w' ∧ w'.cell? ⟨q, 7, none⟩ = some (.slice (some ⟨ab, 0, none⟩) nb nb) ∧ w'.cell? ⟨wr.heap.size, 0, none⟩ = some (.int .i64 ko))
      (first | exact HS.out _ (Below.refl _ _).drew | exact HS.out _ (keepB hb (And.left ‹Below _ _ _ ∧ _›) HN.out) | exact HS.out _ (Below.alloc (And.left ‹Below _ _ _ ∧ _›) (Nat.le_trans HN.out (And.left ‹Below _ _ _ ∧ _›).size) _) | exact HS.out _ (Below.alloc (keepB hb (Below.refl _ _).drew HN.out) (Nat.le_trans HN.out (keepB hb (Below.refl _ _).drew HN.out).size) _) | exact HS.out _ (((keepB hb ((Below.refl _ _).alloc HN.out _).drew HN.out).setCell (by simp) _).setCell (by simp) _))
      (first | (go_at_call 48; refine ((HL.out _ (And.left ‹Below _ _ _ ∧ _›)).at_calls nb ko hko hnb).mono ?_; rintro e w' ⟨rfl, hb⟩; obtain ⟨hc, hf⟩ := bcell hb))
    · go_wp2_with fail
      go_meet
      case rel => exact ⟨_, rfl, And.left ‹Below _ _ _ ∧ _›, by go_simp, by go_simp⟩
    · go_wp2_with fail
      go_meet
      case rel => exact ⟨_, rfl, And.left ‹Below _ _ _ ∧ _›, by go_simp, by go_simp⟩
  case rest =>
    obtain ⟨fb, rfl, hbc, hf0, hf1⟩ := hcut
    have hg1 : wc.cell? ⟨wr.heap.size, 1, none⟩ = some (.int .u64 ks) := by rw [hbc.cell (by simp)]; go_simp
    have GB : Aside (wc.heap[wr.heap.size]? = some (.cells #[.int .i64 ko, .int .u64 ks] 73 (0, 0))) := (hbc.block _ (by omega)).trans (heap_alloc_new wr _)
    have B : Aside (Below wr.heap.size wr wc) := ((Below.refl _ _).alloc (Nat.le_refl _) _).trans (hbc.mono (by omega))
    have hgl := lt_of_cell hg1
    have hfl := lt_of_cell hf0
    clear hbc HS HL HN
    go_upto_region 6 with (first | (go_at_call 56; refine (forGood_zero _ _).mono ?_; rintro e w2 ⟨rfl, hb2⟩; obtain ⟨hc2, hf2⟩ := bcell hb2; have hsz2 := hb2.size) | (go_at_call 53; refine (has_any _ _ _ _).mono ?_; rintro e w4 ⟨rfl, hb4⟩))
    obtain ⟨h, hlen, hk, hbx⟩ := A0.out
    have hB4 : Below wr.heap.size wr w4 := (B.out.trans (hb2.mono B.out.size)).trans (hb4.mono (Nat.le_trans B.out.size hb2.size))
    have h4 := h.step hB4
    have hkb : w4.heap[wr.heap.size]? = some (.cells #[.int .i64 ko, .int .u64 ks] 73 (0, 0)) := (hb4.block _ (Nat.lt_of_lt_of_le hgl hb2.size)).trans ((hb2.block _ hgl).trans GB.out)
    obtain ⟨v0, len, xs, hv0, hrow, hl0, hl1, hvt⟩ := h4.row hk
    have hlen0 : len ≤ 1000000 := by
      cases hl : look m (ko, ks) with
      | none => rw [(hl1 hl).1]; omega
      | some ks' => rw [(hl0 ks' hl).1]; exact hlen _ ((look_some h4.nodup).1 hl)
    have hnm : n < maxLen := by unfold maxLen; omega
    obtain ⟨sta, w5, hEa, hTa, hSa⟩ := entry_run (w := w4.drew) h4.own hnm hk hv0
    obtain ⟨stb, w5b, hEb, hTb, hSb⟩ := entry_run (w := (w4.alloc (.cells #[.pointer (some ⟨bm, 0, none⟩)] 53)).drew) (h4.own.alloc _) hnm hk hv0
    unfold vN at hEa hEb
    obtain ⟨es, clock, hmm⟩ : ∃ es clock, w4.heap[mb]? = some (.map es clock) := by
      obtain ⟨es, clock, h1, _⟩ := h4.own
      exact ⟨es, clock, h1⟩
    have hvm : v0.ownBlock ≠ some mb := fun e => by
      obtain ⟨c, hc⟩ := hvt mb e
      rw [hmm] at hc
      cases hc
    have hy6 : w4.cell? ⟨q, 6, none⟩ = some (.map (some mb)) := h4.qc.cells.1
    have hyo : w4.cell? ⟨wr.heap.size, 0, none⟩ = some (.int .i64 ko) := cell_of_block hkb rfl
    have hys : w4.cell? ⟨wr.heap.size, 1, none⟩ = some (.int .u64 ks) := cell_of_block hkb rfl
    have HS : Hid (∀ wy, NR w4 wy → (wy.cell? ⟨q, 6, none⟩ = some (.map (some mb)) ∧ wy.cell? ⟨wr.heap.size, 0, none⟩ = some (.int .i64 ko) ∧ wy.cell? ⟨wr.heap.size, 1, none⟩ = some (.int .u64 ks))) := by
      intro wy hnr
      obtain ⟨c, k1, k2, k3⟩ := h4.qc
      exact ⟨cell_of_block (hnr _ _ _ k1 (by decide)) k2, cell_of_block (hnr _ _ _ hkb (by decide)) rfl, cell_of_block (hnr _ _ _ hkb (by decide)) rfl⟩
    have keepM : ∀ {wx wy : World}, wx.mapTurned wy mb → ∀ (b : Nat) (c : Array Value) (t : TypeId), wx.heap[b]? = some (.cells c t (0, 0)) → wy.heap[b]? = some (.cells c t (0, 0)) := by
      intro wx wy ht b c t hb
      have hg := ht.grown
      obtain ⟨es, clock, _, _, hm6, _⟩ := ht
      exact (hg.block b (lt_of_heap hb) (fun e => by cases e; rw [hb] at hm6; cases hm6)).trans hb
    have keepR : ∀ {wx wy : World}, wx.mapTurned wy mb → wx.ownsRow w0.heap.size 53 1 v0 len xs → wy.ownsRow w0.heap.size 53 1 v0 len xs := by
      intro wx wy ht hr
      refine ⟨hr.1, ?_⟩
      rcases hr.2 with h1 | ⟨g, cap, cur, h1, h2, h3, h4⟩
      · exact Or.inl h1
      · exact Or.inr ⟨g, cap, cur, h1, h2, keepM ht _ _ _ h3, h4⟩
    have RA : Hid (w5.ownsRow w0.heap.size 53 1 v0 len xs) := keepR hTa hrow
    have RB : Hid (w5b.ownsRow w0.heap.size 53 1 v0 len xs) := keepR hTb (hrow.alloc _)
    have hz5 : w0.heap.size ≤ w5.heap.size := Nat.le_trans h4.below.size hTa.grown.size
    have hz5b : w0.heap.size ≤ w5b.heap.size := Nat.le_trans h4.below.size (Nat.le_trans (by simp) hTb.grown.size)
    have hnb5 : w5b.heap[w4.heap.size]? = some (.cells #[.pointer (some ⟨bm, 0, none⟩)] 53 (0, 0)) := keepM hTb _ _ _ (heap_alloc_new w4 _)
    have NB : Hid (∀ j u, [Value.pointer (some ⟨bm, 0, none⟩)][j]? = some u → w5b.cell? ((⟨w4.heap.size, 0, none⟩ : Addr).add j) = some u) := World.news_of_block hnb5
    have MA : Hid (∀ w6 : World, (w5.alloc (.cells #[.pointer (some ⟨bm, 0, none⟩)] 53)).grownBy w6 v0.ownBlock → w6.heap[mb]? = w5.heap[mb]?) := by
      intro w6 hg
      have hlm : mb < w5.heap.size := Nat.lt_of_lt_of_le (lt_of_heap hmm) hTa.grown.size
      rw [hg.block mb (by simp; omega) (fun e => hvm e.symm)]
      exact Below.heap_alloc _ _ _ hlm
    have MB : Hid (∀ w6 : World, w5b.grownBy w6 v0.ownBlock → w6.heap[mb]? = w5b.heap[mb]?) := by
      intro w6 hg
      have hlm : mb < w5b.heap.size := Nat.lt_of_lt_of_le (lt_of_heap hmm) (Nat.le_trans (by simp) hTb.grown.size)
      exact hg.block mb hlm (fun e => hvm e.symm)
    have SA : Hid (∀ (w2 : World) (val : Value), w2.heap[mb]? = w5.heap[mb]? → ∃ w3, (Instr.entryStore 86 (.map (some mb)) (.int .i64 sta) val).run Try.prog w2 = .ok () w3 ∧ w2.mapTurned w3 mb ∧ w3.ownsMap Try.prog 73 rawR mb (n + 1) (D.put (kN (ko, ks)) (.held val))) := hSa
    have SB : Hid (∀ (w2 : World) (val : Value), w2.heap[mb]? = w5b.heap[mb]? → ∃ w3, (Instr.entryStore 86 (.map (some mb)) (.int .i64 stb) val).run Try.prog w2 = .ok () w3 ∧ w2.mapTurned w3 mb ∧ w3.ownsMap Try.prog 73 rawR mb (n + 1) (D.put (kN (ko, ks)) (.held val))) := hSb
    have N5 : Hid (NR w4 w5) := (NR.drew w4).turned hTa
    have N5b : Hid (NR w4 w5b) := (NR.allocDrew (NR.refl w4) _).turned hTb
    have VA : Hid (∀ g, v0.ownBlock = some g → ∃ c, (w5.alloc (.cells #[.pointer (some ⟨bm, 0, none⟩)] 53)).heap[g]? = some (.cells c 53 (0, 0))) := by
      intro g hg
      obtain ⟨c, hc⟩ := hvt g hg
      have := keepM hTa _ _ _ hc
      exact ⟨c, (Below.heap_alloc _ _ _ (lt_of_heap this)).trans this⟩
    have VB : Hid (∀ g, v0.ownBlock = some g → ∃ c, w5b.heap[g]? = some (.cells c 53 (0, 0))) := by
      intro g hg
      obtain ⟨c, hc⟩ := hvt g hg
      exact ⟨c, keepM hTb _ _ _ ((Below.heap_alloc _ _ _ (lt_of_heap hc)).trans hc)⟩
    have hbx4 : Bx w4 bm x := by
      obtain ⟨c, k1, k2⟩ := hbx
      exact ⟨c, (hB4.block _ (lt_of_heap k1)).trans k1, k2⟩
    have EA : Hid (∀ (g cap : Nat) (w6 w7 : World), w6.ownsRow w0.heap.size 53 1 (.slice (some ⟨g, 0, none⟩) (len + 1) cap) (len + 1) (xs ++ [.pointer (some ⟨bm, 0, none⟩)]) → (w5.alloc (.cells #[.pointer (some ⟨bm, 0, none⟩)] 53)).grownBy w6 v0.ownBlock → (v0.ownBlock = some g ∨ g = w5.heap.size + 1) → w6.mapTurned w7 mb → w7.ownsMap Try.prog 73 rawR mb (n + 1) (D.put (kN (ko, ks)) (.held (.slice (some ⟨g, 0, none⟩) (len + 1) cap))) → ∃ D', BSt w0 q mb ab nb (n + 1) D' (push m (ko, ks) x) w7) := by
      intro g cap w6 w7 k1 k2 k3 k4 k5
      refine wait_end h4 hk hv0 hrow hl0 hl1 hbx4 (wA := w5.alloc (.cells #[.pointer (some ⟨bm, 0, none⟩)] 53)) (fun b c t hb => ?_) ?_ k1 k2 (by simpa using k3) k4 k5
      · have := keepM hTa _ _ _ hb
        exact (Below.heap_alloc _ _ _ (lt_of_heap this)).trans this
      · exact ((Below.refl _ w4).drew.grown (w := w4.drew) hTa.grown h4.below.size (fun j hj => by cases hj; exact h4.news.1)).alloc hz5 _
    have EB : Hid (∀ (g cap : Nat) (w6 w7 : World), w6.ownsRow w0.heap.size 53 1 (.slice (some ⟨g, 0, none⟩) (len + 1) cap) (len + 1) (xs ++ [.pointer (some ⟨bm, 0, none⟩)]) → w5b.grownBy w6 v0.ownBlock → (v0.ownBlock = some g ∨ g = w5b.heap.size) → w6.mapTurned w7 mb → w7.ownsMap Try.prog 73 rawR mb (n + 1) (D.put (kN (ko, ks)) (.held (.slice (some ⟨g, 0, none⟩) (len + 1) cap))) → ∃ D', BSt w0 q mb ab nb (n + 1) D' (push m (ko, ks) x) w7) := by
      intro g cap w6 w7 k1 k2 k3 k4 k5
      refine wait_end h4 hk hv0 hrow hl0 hl1 hbx4 (wA := w5b) (fun b c t hb => ?_) ?_ k1 k2 k3 k4 k5
      · exact keepM hTb _ _ _ ((Below.heap_alloc _ _ _ (lt_of_heap hb)).trans hb)
      · exact ((Below.refl _ w4).alloc h4.below.size _).drew.grown (w := (w4.alloc (.cells #[.pointer (some ⟨bm, 0, none⟩)] 53)).drew) hTb.grown (Nat.le_trans h4.below.size (by simp)) (fun j hj => by cases hj; exact h4.news.1)
    obtain ⟨i0, hi, hz0, hz1, hz2⟩ := info_parts info53
    clear hbx4 hSa hSb hTa hTb keepM keepR hnb5 hvt hl0 hl1 hrow h4 hB4 h hlen hk hbx hkb hv0 hmm hvm hnm hb2 hb4 hc2 hf2 hsz2 hf0 hf1 hg1 hgl hfl hq6 hq7 hlq hlq1 hlq2 hlq3
    go_region_held3 (fun wy => wy.cell? ⟨q, 6, none⟩ = some (.map (some mb)) ∧ wy.cell? ⟨wr.heap.size, 0, none⟩ = some (.int .i64 ko) ∧ wy.cell? ⟨wr.heap.size, 1, none⟩ = some (.int .u64 ks))
      (first | exact HS.out _ (NR.drew _) | exact HS.out _ N5.out | exact HS.out _ (N5.out.alloc _) | exact HS.out _ (NR.allocDrew (NR.refl _) _) | exact HS.out _ N5b.out | exact HS.out _ (((N5.out.alloc _).grown hgrow6 VA.out).turned hT7) | exact HS.out _ ((N5b.out.grown hgrow6 VB.out).turned hT7) | exact HS.out _ ((N5.out.alloc _).grown hgrow6 VA.out) | exact HS.out _ (N5b.out.grown hgrow6 VB.out))
      (first | ((refine step_append_lies _ (by rfl) _ _ 93 (by rfl) w0.heap.size 53 i0 (.pointer none) 1 8 Try.underlying93 hi hz0 hz1 hz2 rfl (by omega) v0 len xs (by rfl) (RA.out.alloc _) ⟨w5.heap.size, 0, none⟩ 1 1 [.pointer (some ⟨bm, 0, none⟩)] (by rfl) rfl (cell_one_new _ _ _) (by simp [Value.oneCell']) (by omega) (by unfold maxLen; omega) (by omega) (by simp; omega) (w5.heap.size + 1) (by simp) ?_; intro g cap5 w6 hown6 hgrow6 hat6 hlt6; obtain ⟨w7, hE7, hT7, hO7⟩ := SA.out w6 (.slice (some ⟨g, 0, none⟩) (len + 1) cap5) (MA.out _ hgrow6)))
             | ((refine step_append_lies _ (by rfl) _ _ 93 (by rfl) w0.heap.size 53 i0 (.pointer none) 1 8 Try.underlying93 hi hz0 hz1 hz2 rfl (by omega) v0 len xs (by rfl) RB.out ⟨w4.heap.size, 0, none⟩ 1 1 [.pointer (some ⟨bm, 0, none⟩)] (by rfl) rfl NB.out (by simp [Value.oneCell']) (by omega) (by unfold maxLen; omega) (by omega) hz5b w5b.heap.size rfl ?_; intro g cap5 w6 hown6 hgrow6 hat6 hlt6; obtain ⟨w7, hE7, hT7, hO7⟩ := SB.out w6 (.slice (some ⟨g, 0, none⟩) (len + 1) cap5) (MB.out _ hgrow6))))
    all_goals go_wp2
    all_goals go_end0
    all_goals refine ⟨rfl, ?_⟩
    all_goals first | exact EA.out _ _ _ _ hown6 hgrow6 hat6 hT7 hO7 | exact EB.out _ _ _ _ hown6 hgrow6 hat6 hT7 hO7
end Go.Proofs.Qxb6602500a
