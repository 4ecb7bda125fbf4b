import Derived.Test.Qxb6602500aOps
import Derived.Deep.DeepCutAuto
import Derived.Deep.LoopGhost
import Derived.Deep.Light
namespace Go.Proofs.Qxb6602500a
open Go.RowKit
set_option maxRecDepth 100000

theorem bcell {W w1 : World} (hb : Below W.heap.size W w1) : (∀ b o, b < W.heap.size → w1.cell? ⟨b, o, none⟩ = W.cell? ⟨b, o, none⟩) ∧ (∀ b o, b < W.heap.size → w1.frozen? ⟨b, o, none⟩ = W.frozen? ⟨b, o, none⟩) :=
  ⟨fun b o h => hb.cell (p := ⟨b, o, none⟩) h, fun b o h => hb.frozen (p := ⟨b, o, none⟩) h⟩

theorem TD.cap_le {w B tg cap td} (h : TD w B tg cap td) : td.length ≤ cap := by
  rcases h.2 with ⟨h1, _⟩ | ⟨g, cap', cur, h1, h2, h3, h4, _⟩
  · cases h1
  · cases h1; exact h4

theorem newG_first {g : Int × Int} {s v : Int} (h0 : g.1 = 0 → v = s) (h1 : g.1 ≠ 0 → v = min s g.1) : v = (newG g s).1 := by
  simp only [newG]
  split
  · exact h0 ‹_›
  · exact h1 ‹_›

theorem total_filter_le (m : WMap) (f : (Nat × Int) × List (Nat × Int) → Bool) : total (m.filter f) ≤ total m := by
  induction m with
  | nil => simp [total]
  | cons a r ih =>
    by_cases h : f a = true
    · rw [List.filter_cons_of_pos h]; simp [total] at ih ⊢; omega
    · rw [List.filter_cons_of_neg h]; simp [total] at ih ⊢; omega

theorem lose_round {nb : Nat} {m m1 m2 : WMap} {L L0 : Nat → Int × Int} {k x : Nat × Int} {td td2 : List (Nat × Int)} {left : Lit → Bool} {g0 : Nat} (hgm : GoodM nb m1) (hgt : ∀ y ∈ td ++ [x], GoodK nb y) (hn : (m1.map (·.1)).Nodup)
    (hinv : OInv L0 (look m) k L (look m1) (td ++ [x])) (hcov : hasB (L x.1).1 (L x.1).2 x.2 = false) (hle : (td ++ [x]).length + total m1 ≤ g0) (hle2 : total m1 ≤ total m) (hle3 : g0 ≤ total m + 1) (hS : SInv (upd L x.1 (newG (L x.1) x.2)) m1 td left m2 td2) (hl : ∀ l, left l = false) :
    GoodM nb m2 ∧ (∀ y ∈ td2, GoodK nb y) ∧ OInv L0 (look m) k (upd L x.1 (newG (L x.1) x.2)) (look m2) td2 ∧ td2.length + total m2 ≤ g0 - 1 ∧ total m2 ≤ total m ∧ g0 - 1 ≤ total m + 1 := by
  have hm2 := hS.map_
  have hc := hS.count
  have ht : total m2 ≤ total m1 := by rw [hm2]; exact total_filter_le _ _
  refine ⟨fun e he => hgm e (by rw [hm2] at he; exact (List.mem_filter.1 he).1), fun y hy => ?_, hinv.swept hn (hgt x (by simp)).2.2 hcov hS hl, ?_, by omega, by omega⟩
  · rcases hS.only y hy with h | ⟨e, he, _, hy'⟩
    · exact hgt y (by simp [h])
    · exact (hgm e he).2 y hy'
  · simp at hle
    omega

theorem info73 : (Try.prog.info? 73).map (fun i => (i.zero, i.size, i.bytes)) = some (some (.agg #[.int .i64 0, .int .u64 0]), 2, 16) := by kernel_rfl
theorem cell_two_new' (w : World) (x y : Value) (t : TypeId) : ∀ j u, [x, y][j]? = some u → (w.alloc (.cells #[x, y] t)).cell? ((⟨w.heap.size, 0, none⟩ : Addr).add j) = some u := by
  intro j u hj
  match j, hj with
  | 0, hj => simp at hj; subst hj; simp [Addr.add]
  | 1, hj => simp at hj; subst hj; simp [Addr.add]

/-- One waiter pushed. -/
theorem push_step {w wr w5 : World} {q mb ab nb n r cnt : Nat} {sub0 sub : Nat → Option Nat} {L : Nat → Int × Int} {D : DataW Value} {m : WMap} {left : Lit → Bool} {td2 ws td3 : List (Nat × Int)} {t tg3 cap4 g5 cap5 rb cap3 yo : Nat} {ys : Int} (htw : t < ws.length) (e3 : td3 = td2 ++ ws.take t) (ey1 : yo = (ws[t]).1) (ey2 : ys = (ws[t]).2)
    (hslc : Slc wr (.slice (some ⟨rb, 0, none⟩) ws.length cap3) ws) (htd : TD wr w.heap.size tg3 cap4 (td2 ++ ws.take t)) (hst : LSt w q mb ab nb n sub0 sub L D m wr) (hrg : wr.ranges Try.prog 73 rawR mb r n D left cnt)
    (hown : w5.ownsRow w.heap.size 73 2 (.slice (some ⟨g5, 0, none⟩) (td3.length + 1) cap5) (td3.length + 1) (tcells td3 ++ [.int .i64 yo, .int .u64 ys]))
    (hgrow : (wr.alloc (.cells #[.int .i64 yo, .int .u64 ys] 73)).grownBy w5 (Value.slice (some ⟨tg3, 0, none⟩) td3.length cap4).ownBlock) :
    Value.slice (some ⟨g5, 0, none⟩) (td3.length + 1) cap5 = .slice (some ⟨g5, 0, none⟩) (td2 ++ ws.take (t + 1)).length cap5 ∧ TD w5 w.heap.size g5 cap5 (td2 ++ ws.take (t + 1)) ∧ LSt w q mb ab nb n sub0 sub L D m w5 ∧ w5.ranges Try.prog 73 rawR mb r n D left cnt ∧ Slc w5 (.slice (some ⟨rb, 0, none⟩) ws.length cap3) ws := by
  have hba : Below wr.heap.size wr (wr.alloc (.cells #[.int .i64 yo, .int .u64 ys] 73)) := (Below.refl _ _).alloc (Nat.le_refl _) _
  have e4 : td2 ++ ws.take (t + 1) = td3 ++ [ws[t]] := by
    rw [e3, List.take_succ_eq_append_getElem htw, List.append_assoc]
  obtain ⟨hB, c, hc⟩ := (htd.below hba).block
  have hgr : (wr.alloc (.cells #[.int .i64 yo, .int .u64 ys] 73)).grownBy w5 (some tg3) := hgrow
  rw [e4]
  refine ⟨by simp, ?_, (hst.below hba).grown hgr (fun g hg => by cases hg; exact ⟨hB, c, hc⟩), ranges_row (ranges_below hrg hba) hc hgr, ?_⟩
  · unfold TD
    rw [tcells_append, tcells_one, ← ey1, ← ey2]
    simpa using hown
  · refine (hslc.kept (fun b c t hb _ => hba.block _ (lt_of_heap hb))).kept (fun b c' t hb ht => hgr.block b (lt_of_heap hb) (fun e => ?_))
    cases e
    rw [hb] at hc
    cases hc
    rcases ht with ht | ht <;> cases ht

theorem lose_start {w : World} {q mb ab nb n : Nat} {sub : Nat → Option Nat} {L : Nat → Int × Int} {D : DataW Value} {m : WMap} (h : LSt w q mb ab nb n sub sub L D m w) (hgm : GoodM nb m) {k : Nat × Int} (hk : GoodK nb k) :
    ∃ sub' L' D' m' tg cap td, Value.slice (some ⟨w.heap.size + 1, 0, none⟩) 1 1 = .slice (some ⟨tg, 0, none⟩) td.length cap ∧
      TD ((w.alloc (.cells #[.int .i64 k.1, .int .u64 k.2] 73)).alloc (.cells #[.int .i64 k.1, .int .u64 k.2] 73)) w.heap.size tg cap td ∧
      LSt w q mb ab nb n sub sub' L' D' m' ((w.alloc (.cells #[.int .i64 k.1, .int .u64 k.2] 73)).alloc (.cells #[.int .i64 k.1, .int .u64 k.2] 73)) ∧ GoodM nb m' ∧ (∀ x ∈ td, GoodK nb x) ∧ OInv L (look m) k L' (look m') td ∧ td.length + total m' ≤ total m + 1 ∧ total m' ≤ total m ∧ total m + 1 ≤ total m + 1 := by
  refine ⟨sub, L, D, m, w.heap.size + 1, 1, [k], rfl, ?_, h.below (((Below.refl _ _).alloc (Nat.le_refl _) _).alloc (by simp) _), hgm, by simpa using hk, OInv.start _ _ _, by simp; omega, Nat.le_refl _, Nat.le_refl _⟩
  refine ⟨rfl, Or.inr ⟨w.heap.size + 1, 1, #[.int .i64 k.1, .int .u64 k.2], rfl, by omega, ?_, Nat.le_refl _, by decide, rfl, rfl⟩⟩
  have := heap_alloc_new (w.alloc (.cells #[.int .i64 k.1, .int .u64 k.2] 73)) (.cells #[.int .i64 k.1, .int .u64 k.2] 73)
  rwa [show (w.alloc (.cells #[.int .i64 k.1, .int .u64 k.2] 73)).heap.size = w.heap.size + 1 from by simp] at this

set_option maxHeartbeats 8000000 in
theorem lose_calls {w : World} {q mb ab nb n : Nat} {sub : Nat → Option Nat} {L : Nat → Int × Int} {D : DataW Value} {m : WMap} (hnb : nb ≤ 1000000) (h : LSt w q mb ab nb n sub sub L D m w) (hgm : GoodM nb m) (htot : total m ≤ 1000000)
    (k : Nat × Int) (hk : GoodK nb k) :
    Calls Try.prog 40 #[.pointer (some ⟨q, 0, none⟩), .agg #[.int .i64 k.1, .int .u64 k.2]] w fun e w' => e = .returned (.tuple #[]) ∧
      ∃ sub' L' D' m', LSt w q mb ab nb n sub sub' L' D' m' w' ∧ GoodM nb m' ∧ total m' ≤ total m ∧ LoseRel L (look m) k L' (look m') := by
  have A0 : Aside (LSt w q mb ab nb n sub sub L D m w ∧ GoodM nb m ∧ total m ≤ 1000000 ∧ GoodK nb k) := ⟨h, hgm, htot, hk⟩
  clear h hgm htot hk
  go_enter Try.func40, Try.ntmps40
  go_wp2
  go_loopg [4] (total m + 1) (fun j v wr => ∃ sub' L' D' m' tg cap td, v = .slice (some ⟨tg, 0, none⟩) td.length cap ∧ TD wr w.heap.size tg cap td ∧ LSt w q mb ab nb n sub sub' L' D' m' wr ∧ GoodM nb m' ∧ (∀ x ∈ td, GoodK nb x) ∧ OInv L (look m) k L' (look m') td ∧ td.length + total m' ≤ j ∧ total m' ≤ total m ∧ j ≤ total m + 1)
  case atStart =>
    obtain ⟨h, hgm, htot, hk⟩ := A0.out
    exact lose_start h hgm hk
  case round =>
    obtain ⟨sub', L', D', m', tg, cap, td, rfl, htd, hst, hgm', hgt, hinv, hle, hle2, hle3⟩ := hrel
    obtain ⟨g0, e0⟩ : ∃ g0, g0 = gk := ⟨_, rfl⟩
    subst e0
    rcases List.eq_nil_or_concat td with rfl | ⟨td', x, rfl⟩
    · have A : Aside (TD wr w.heap.size tg cap [] ∧ LSt w q mb ab nb n sub sub' L' D' m' wr ∧ GoodM nb m' ∧ OInv L (look m) k L' (look m') [] ∧ total m' ≤ total m) := ⟨htd, hst, hgm', hinv, hle2⟩
      clear htd hst hgm' hgt hinv hle hle2 hle3
      go_wp2
      go_end0
      obtain ⟨_, hst, hgm', hinv, hle2⟩ := A.out
      exact ⟨rfl, sub', L', D', m', hst, hgm', hle2, hinv.done⟩
    · have htd0 : TD wr w.heap.size tg cap (td' ++ [x]) := by simpa using htd
      obtain ⟨hc0, hc1⟩ := TD.last htd0
      have hlt := lt_of_cell hc0
      obtain ⟨hlt1, hlt2, hlt3⟩ := lts hlt
      have hlen : td'.length ≤ 1000002 := by
        have := A0.out.2.2.1
        simp at hle
        omega
      have hcap : td'.length ≤ cap := htd0.pop.cap_le
      obtain ⟨hq6, hq7, hlq⟩ := hst.qc.cells
      obtain ⟨hlq1, hlq2, hlq3⟩ := lts hlq
      have A : Aside (TD wr w.heap.size tg cap (td' ++ [x]) ∧ LSt w q mb ab nb n sub sub' L' D' m' wr ∧ GoodM nb m' ∧ (∀ y ∈ td' ++ [x], GoodK nb y) ∧ OInv L (look m) k L' (look m') (td' ++ [x]) ∧ (td' ++ [x]).length + total m' ≤ g0 ∧ total m' ≤ total m ∧ g0 ≤ total m + 1) := ⟨htd0, hst, hgm', by simpa using hgt, by simpa using hinv, by simpa using hle, hle2, hle3⟩
      have HS : Hid (∀ w', Below (wr.heap.size + 1) (wr.alloc (.cells #[.int .i64 x.1, .int .u64 x.2] 73)) w' → (Below (wr.heap.size + 1) (wr.alloc (.cells #[.int .i64 x.1, .int .u64 x.2] 73)) w' ∧ w'.cell? ⟨q, 7, none⟩ = some (.slice (some ⟨ab, 0, none⟩) nb nb) ∧ w'.cell? ⟨wr.heap.size, 0, none⟩ = some (.int .i64 x.1))) := by
        intro w' hb
        refine ⟨hb, ?_, ?_⟩
        · rw [hb.cell (by simp; omega)]; go_simp
        · rw [hb.cell (by simp)]; go_simp
      have HL : Hid (∀ w', Below (wr.heap.size + 1) (wr.alloc (.cells #[.int .i64 x.1, .int .u64 x.2] 73)) w' → Lost w' ab nb sub' L') := fun w' hb => (hst.lost.below ((Below.refl _ _).alloc (Nat.le_refl _) _)).belowN (by simp) hb
      have HN : Hid (wr.heap.size + 1 ≤ (wr.alloc (.cells #[.int .i64 x.1, .int .u64 x.2] 73)).heap.size) := by unfold Hid; simp
      have HG : Hid (x.1 < 32 * nb) := (hgt x (by simp)).1
      clear htd htd0 hst hgm' hgt hinv hle hle2 hle3
      rw [show (td'.concat x).length = td'.length + 1 from by simp]
      go_upto_region 5 with fail
      go_cut [6] (fun v6 wc => ∃ fb, v6 = .pointer (some ⟨fb, 0, none⟩) ∧ Below (wr.heap.size + 1) (wr.alloc (.cells #[.int .i64 x.1, .int .u64 x.2] 73)) wc ∧ wc.cell? ⟨fb, 0, none⟩ = some (.int .u64 (L' x.1).1) ∧ wc.cell? ⟨fb, 1, none⟩ = some (.int .u64 (L' x.1).2))
      case first =>
        go_region_held3 (fun w' => Below (wr.heap.size + 1) (wr.alloc (.cells #[.int .i64 x.1, .int .u64 x.2] 73)) w' ∧ w'.cell? ⟨q, 7, none⟩ = some (.slice (some ⟨ab, 0, none⟩) nb nb) ∧ w'.cell? ⟨wr.heap.size, 0, none⟩ = some (.int .i64 x.1))
          (first | exact HS.out _ (Below.refl _ _).drew | exact HS.out _ (keepB hb (And.left ‹Below _ _ _ ∧ _›) HN.out) | exact HS.out _ (Below.alloc (And.left ‹Below _ _ _ ∧ _›) (Nat.le_trans HN.out (And.left ‹Below _ _ _ ∧ _›).size) _) | exact HS.out _ (Below.alloc (keepB hb (Below.refl _ _).drew HN.out) (Nat.le_trans HN.out (keepB hb (Below.refl _ _).drew HN.out).size) _) | exact HS.out _ (((keepB hb ((Below.refl _ _).alloc HN.out _).drew HN.out).setCell (by simp) _).setCell (by simp) _))
          (first | (go_at_call 48; refine ((HL.out _ (And.left ‹Below _ _ _ ∧ _›)).at_calls nb x.1 HG.out hnb).mono ?_; rintro e w' ⟨rfl, hb⟩; obtain ⟨hc, hf⟩ := bcell hb))
        · go_wp2_with fail
          go_meet
          case rel => exact ⟨_, rfl, And.left ‹Below _ _ _ ∧ _›, by go_simp, by go_simp⟩
        · go_wp2_with fail
          go_meet
          case rel => exact ⟨_, rfl, And.left ‹Below _ _ _ ∧ _›, by go_simp, by go_simp⟩
      case rest =>
        obtain ⟨fb, rfl, hbc, hf0, hf1⟩ := hcut
        have hg0 : wc.cell? ⟨wr.heap.size, 0, none⟩ = some (.int .i64 x.1) := by rw [hbc.cell (by simp)]; go_simp
        have hg1 : wc.cell? ⟨wr.heap.size, 1, none⟩ = some (.int .u64 x.2) := by rw [hbc.cell (by simp)]; go_simp
        have GB : Aside (wc.heap[wr.heap.size]? = some (.cells #[.int .i64 x.1, .int .u64 x.2] 73 (0, 0))) := (hbc.block _ (by omega)).trans (heap_alloc_new wr _)
        have B : Aside (Below wr.heap.size wr wc) := ((Below.refl _ _).alloc (Nat.le_refl _) _).trans (hbc.mono (by omega))
        clear hbc HS HL HN hc0 hc1
        have hgl := lt_of_cell hg0
        have hfl := lt_of_cell hf0
        by_cases hcov : hasB (L' x.1).1 (L' x.1).2 x.2 = true
        · go_wp2_with (go_at_call 53; refine (has_any _ _ _ _).mono ?_; rintro e w' ⟨rfl, hb⟩)
          go_roundg (g0 - 1)
          case measure =>
            obtain ⟨_, _, _, _, _, h6, _⟩ := A.out
            simp at h6
            omega
          case rel =>
            obtain ⟨htd, hst, hgm', hgt, hinv, hle, hle2, hle3⟩ := A.out
            refine ⟨sub', L', D', m', tg, cap, td', rfl, (htd.pop.below B.out).below hb, (hst.below B.out).below hb, hgm', fun y hy => hgt y (by simp [hy]), hinv.skip hcov, ?_, hle2, by omega⟩
            simp at hle
            omega
        · have hcov' : hasB (L' x.1).1 (L' x.1).2 x.2 = false := by simpa using hcov
          clear hcov
          go_upto_if 43 with (go_at_call 53; refine (has_any _ _ _ _).mono ?_; rintro e w' ⟨rfl, hb⟩; obtain ⟨hc, hf⟩ := bcell hb)
          go_cut [7] (fun v7 wd => v7 = .int .u64 (newG (L' x.1) x.2).1 ∧ w' = wd)
          case first =>
            go_wp2
            all_goals go_meet
            all_goals
              go_light
              refine ⟨congrArg (Value.int IntKind.u64) (newG_first ?_ ?_), rfl⟩
              · intro h0
                first | rfl | (have h1 := ‹((L' x.1).1 != 0) = true›; simp [h0] at h1)
              · intro h0
                first | omega | (have h1 := ‹((L' x.1).1 != 0) = false›; simp [h0] at h1)
          case rest =>
            obtain ⟨rfl, rfl⟩ := hcut
            have hst1 : LSt w q mb ab nb n sub sub' L' D' m' w' := (A.out.2.1.below B.out).below hb
            have hq7' : w'.cell? ⟨q, 7, none⟩ = some (.slice (some ⟨ab, 0, none⟩) nb nb) := hst1.qc.cells.2.1
            have hg0' : w'.cell? ⟨wr.heap.size, 0, none⟩ = some (.int .i64 x.1) := (hc _ _ hgl).trans hg0
            have HL : Hid (Lost w'.drew ab nb sub' L') := hst1.lost.below (Below.refl _ _).drew
            have HK : Hid (∀ wx, Fr (lostOwn ab nb sub') w'.drew wx → wx.cell? ⟨q, 7, none⟩ = some (.slice (some ⟨ab, 0, none⟩) nb nb) ∧ wx.cell? ⟨wr.heap.size, 0, none⟩ = some (.int .i64 x.1)) := by
              intro wx hfx
              obtain ⟨c, k1, k2, k3⟩ := hst1.qc
              have k4 : w'.heap[wr.heap.size]? = some (.cells #[.int .i64 x.1, .int .u64 x.2] 73 (0, 0)) := (hb.block _ hgl).trans GB.out
              exact ⟨cell_of_block ((hfx.block q (lt_of_heap k1) (hst1.lost.not_own k1 (by decide) (by decide))).trans k1) k3, cell_of_block ((hfx.block _ (lt_of_heap k4) (hst1.lost.not_own k4 (by decide) (by decide))).trans k4) rfl⟩
            have C : Aside (LSt w q mb ab nb n sub sub' L' D' m' w') := hst1
            clear hst1 hc hf hf0 hf1 hg0 hg1 hq6 hq7 hlt hlt1 hlt2 hlt3 hlq hlq1 hlq2 hlq3 hfl
            go_upto_region 10 with fail
            go_region_held3 (fun wx => wx.cell? ⟨q, 7, none⟩ = some (.slice (some ⟨ab, 0, none⟩) nb nb) ∧ wx.cell? ⟨wr.heap.size, 0, none⟩ = some (.int .i64 x.1))
              (first | exact ⟨hq7', hg0'⟩ | exact HK.out _ hfx)
              (first | (go_at_call 52; refine (HL.out.set_calls nb x.1 (newG (L' x.1) x.2).1 0 HG.out hnb).mono ?_; rintro e wx ⟨rfl, sub2, hl2, hn2, hfx⟩))
            have hst2 : LSt w q mb ab nb n sub sub2 (upd L' x.1 (newG (L' x.1) x.2)) D' m' wx := (C.out.below (Below.refl _ _).drew).set hl2 hn2 hfx
            have htd2 : TD wx w.heap.size tg cap td' := TD.set ((((A.out.1.pop).below B.out).below hb).below (Below.refl _ _).drew) HL.out hfx
            have hq6 : wx.cell? ⟨q, 6, none⟩ = some (.map (some mb)) := hst2.qc.cells.1
            have hown := hst2.wts.own
            have E1 : Aside (LSt w q mb ab nb n sub sub2 (upd L' x.1 (newG (L' x.1) x.2)) D' m' wx ∧ TD wx w.heap.size tg cap td') := ⟨hst2, htd2⟩
            clear hst2 htd2 hl2 hn2 hfx HK HL hq7' hg0' hgl
            go_wp2_with (at_range; refine wpList_range_own _ rfl _ 86 rfl 73 93 law Try.underlying86 rawR mb n D' rfl hown ?_; intro w0 hrg0 hg0 hs0)
            go_frame
            clear hown
            go_loopg [4] (Maps.size D') (fun j v wi => ∃ left D2 m2 tg2 cap2 td2, v = .slice (some ⟨tg2, 0, none⟩) td2.length cap2 ∧ TD wi w.heap.size tg2 cap2 td2 ∧ LSt w q mb ab nb n sub sub2 (upd L' x.1 (newG (L' x.1) x.2)) D2 m2 wi ∧ wi.ranges Try.prog 73 rawR mb wx.heap.size n D2 left j ∧ SInv (upd L' x.1 (newG (L' x.1) x.2)) m' td' left m2 td2)
            case atStart =>
              obtain ⟨hst2, htd2⟩ := E1.out
              have hb0 : Below wx.heap.size wx w0 := ⟨hg0.os, hg0.tape, hg0.output, hg0.size, fun k hk => hg0.block k hk (by simp)⟩
              refine ⟨Maps.has D', D', m', tg, cap, td', rfl, htd2.below hb0, hst2.below hb0, hrg0, SInv.start (fun e he => ?_) hst2.wts.dom⟩
              obtain ⟨_, v, h1, _⟩ := hst2.wts.at_ e he
              exact Maps.has_true_of_atKey h1
            case round =>
              obtain ⟨left, D2, m2, tg2, cap2, td2, rfl, htd, hst, hrg, hS⟩ := hrel
              obtain ⟨g1, e1⟩ : ∃ g1, g1 = gk := ⟨_, rfl⟩
              subst e1
              have hlr : w.heap.size ≤ wx.heap.size := E1.out.1.fr.size
              have HD : Hid (∀ l, left l = true → ∃ e ∈ m', l = kN e.1 ∧ wfN e.1 ∧ ∃ v, (∀ z, D2.atKey (kN e.1) z = .held v) ∧ Slc wr v e.2) := by
                intro l hl
                obtain ⟨e, he, rfl⟩ := hS.dom l hl
                have hem : e ∈ m2 := by rw [hS.map_]; exact List.mem_filter.2 ⟨he, by simp [hl]⟩
                exact ⟨e, he, rfl, hst.wts.at_ e hem⟩
              have F1 : Aside (TD wr w.heap.size tg2 cap2 td2 ∧ LSt w q mb ab nb n sub sub2 (upd L' x.1 (newG (L' x.1) x.2)) D2 m2 wr ∧ SInv (upd L' x.1 (newG (L' x.1) x.2)) m' td' left m2 td2 ∧ w.heap.size ≤ wx.heap.size) := ⟨htd, hst, hS, hlr⟩
              clear htd hst hS hlr hrg0 hg0 hs0
              go_wp2_with (at_next; refine wpList_next_wts rfl _ rfl mb _ n D2 left g1 m' rfl hrg HD.out ?_ ?_)
              · intro hc0 hl0
                go_wp2
                go_roundg (g0 - 1)
                case measure =>
                  obtain ⟨_, _, _, _, _, h6, _⟩ := A.out
                  simp at h6
                  omega
                case rel =>
                  obtain ⟨_, hst0, hgm', hgt, hinv, hle, hle2, hle3⟩ := A.out
                  obtain ⟨htd, hst, hS, _⟩ := F1.out
                  exact ⟨sub2, _, D2, m2, tg2, cap2, td2, rfl, htd, hst, lose_round hgm' hgt hst0.wts.nodup hinv hcov' hle hle2 hle3 hS hl0⟩
              · intro ko ks ws rb cap3 w1 cnt1 hem hle0 hslc hrg1 hlt1 hg1 hs1 hen
                obtain ⟨htd, hst, hS, hlr⟩ := F1.out
                have hst1 := hst.iter hg1 hlr (ranges_iter hrg)
                have htd1 := htd.iter hg1 (ranges_iter hrg)
                have hwf1 : ∀ a ∈ m', wfN a.1 := fun a ha => (E1.out.1.wts.at_ a ha).1
                have hwf := hwf1 _ hem
                have hko : ko < 32 * nb := (A.out.2.2.1 _ hem).1
                have hba : Below w1.heap.size w1 (w1.alloc (.cells #[.int .i64 ko, .int .u64 ks] 73)) := (Below.refl _ _).alloc (Nat.le_refl _) _
                have HQ : Hid (QCells (w1.alloc (.cells #[.int .i64 ko, .int .u64 ks] 73)) q mb ab nb) := (hst1.below hba).qc
                have HL : Hid (Lost (w1.alloc (.cells #[.int .i64 ko, .int .u64 ks] 73)) ab nb sub2 (upd L' x.1 (newG (L' x.1) x.2))) := (hst1.below hba).lost
                have G1 : Aside (TD w1 w.heap.size tg2 cap2 td2 ∧ LSt w q mb ab nb n sub sub2 (upd L' x.1 (newG (L' x.1) x.2)) D2 m2 w1 ∧ SInv (upd L' x.1 (newG (L' x.1) x.2)) m' td' left m2 td2 ∧ w.heap.size ≤ wx.heap.size ∧ (∀ a ∈ m', wfN a.1) ∧ wfN (ko, ks) ∧ ((ko, ks), ws) ∈ m' ∧ left (kN (ko, ks)) = true ∧ Slc wr (.slice (some ⟨rb, 0, none⟩) ws.length cap3) ws ∧ cnt1 < g1 ∧ wr.grownBy w1 (some wx.heap.size) ∧ w1.ranges Try.prog 73 rawR mb wx.heap.size n D2 (fun z => left z && !z.sameKey (kN (ko, ks))) cnt1 ∧ wr.ranges Try.prog 73 rawR mb wx.heap.size n D2 left g1) := ⟨htd1, hst1, hS, hlr, hwf1, hwf, hem, hle0, hslc, hlt1, hg1, hrg1, hrg⟩
                clear htd hst hS hlr hst1 htd1 hwf1 hwf hem hle0 hslc hlt1 hg1 hs1 hba hrg1 hrg
                by_cases hce : cov (upd L' x.1 (newG (L' x.1) x.2)) (ko, ks) = true
                · go_upto_region 15 with (go_at_call 49; refine (isLost_calls HQ.out HL.out ko ks hko hnb).mono ?_; rintro e w2 ⟨rfl, hb2⟩)
                  obtain ⟨htd, hst, hS, hlr, hwf1, hwf, hem, hle0, hslc, hlt1, hg1, hrg1, hrg⟩ := G1.out
                  have hba : Below w1.heap.size w1 w2 := ((Below.refl _ _).alloc (Nat.le_refl _) _).trans (hb2.mono (by simp))
                  have hst2 := hst.below hba
                  have htd2 := htd.below hba
                  have hkb : w2.heap[w1.heap.size]? = some (.cells #[.int .i64 ko, .int .u64 ks] 73 (0, 0)) := (hb2.block _ (by simp)).trans (heap_alloc_new w1 _)
                  have hy6 : w2.cell? ⟨q, 6, none⟩ = some (.map (some mb)) := hst2.qc.cells.1
                  have hyo : w2.cell? ⟨w1.heap.size, 0, none⟩ = some (.int .i64 ko) := cell_of_block hkb rfl
                  have hys : w2.cell? ⟨w1.heap.size, 1, none⟩ = some (.int .u64 ks) := cell_of_block hkb rfl
                  have HR : Hid (w2.drew.ranges Try.prog 73 rawR mb wx.heap.size n D2 (fun z => left z && !z.sameKey (kN (ko, ks))) cnt1) := ranges_below (ranges_below hrg1 hba) (Below.refl _ _).drew
                  have HW : Hid (wfN (ko, ks)) := hwf
                  have HK : Hid (∀ wy, w2.drew.mapTurned wy mb → wy.cell? ⟨q, 6, none⟩ = some (.map (some mb)) ∧ wy.cell? ⟨w1.heap.size, 0, none⟩ = some (.int .i64 ko) ∧ wy.cell? ⟨w1.heap.size, 1, none⟩ = some (.int .u64 ks)) := by
                    intro wy ht
                    obtain ⟨es, kk, hmm⟩ := hst2.wts.mapAt
                    obtain ⟨c, k1, k2, k3⟩ := hst2.qc
                    have ne : ∀ (b : Nat) (c : Array Value) (t : TypeId), w2.heap[b]? = some (.cells c t (0, 0)) → wy.heap[b]? = some (.cells c t (0, 0)) := fun b c t hb => (ht.grown.block b (lt_of_heap hb) (fun e => by cases e; rw [hb] at hmm; cases hmm)).trans hb
                    exact ⟨cell_of_block (ne _ _ _ k1) k2, cell_of_block (ne _ _ _ hkb) rfl, cell_of_block (ne _ _ _ hkb) rfl⟩
                  have hslc2 : Slc w2 (.slice (some ⟨rb, 0, none⟩) ws.length cap3) ws := by
                    obtain ⟨a, b, c, d, hi⟩ := ranges_iter hrg
                    refine (hslc.kept (w' := w1) (fun b c t hb _ => hg1.block b (lt_of_heap hb) (fun e => by cases e; rw [hb] at hi; cases hi))).kept (fun b c t hb _ => hba.block _ (lt_of_heap hb))
                  have G2 : Aside (TD w2 w.heap.size tg2 cap2 td2 ∧ LSt w q mb ab nb n sub sub2 (upd L' x.1 (newG (L' x.1) x.2)) D2 m2 w2 ∧ SInv (upd L' x.1 (newG (L' x.1) x.2)) m' td' left m2 td2 ∧ (∀ a ∈ m', wfN a.1) ∧ wfN (ko, ks) ∧ ((ko, ks), ws) ∈ m' ∧ left (kN (ko, ks)) = true ∧ Slc w2 (.slice (some ⟨rb, 0, none⟩) ws.length cap3) ws ∧ cnt1 < g1) := ⟨htd2, hst2, hS, hwf1, hwf, hem, hle0, hslc2, hlt1⟩
                  clear htd hst hS hlr hwf1 hwf hem hle0 hslc hlt1 hg1 hrg1 hrg hba hst2 htd2 hkb hslc2 hb2 HL HQ hko G1 F1
                  go_region_held3 (fun wy => wy.cell? ⟨q, 6, none⟩ = some (.map (some mb)) ∧ wy.cell? ⟨w1.heap.size, 0, none⟩ = some (.int .i64 ko) ∧ wy.cell? ⟨w1.heap.size, 1, none⟩ = some (.int .u64 ks))
                    (first | exact ⟨hy6, hyo, hys⟩ | exact HK.out _ hturn)
                    ((refine step_delete_wts (by rfl) _ _ (by rfl) mb _ n D2 _ cnt1 (by rfl) HR.out ko ks (by rfl) HW.out ?_; intro w3 cnt3 hrg3 hle3 hturn))
                  obtain ⟨htd2, hst2, hS, hwf1, hwf, hem, hle0, hslc2, hlt1⟩ := G2.out
                  have hrg4 : w3.ranges Try.prog 73 rawR mb wx.heap.size n (D2.del (kN (ko, ks))) (fun z => left z && !z.sameKey (kN (ko, ks))) cnt3 := by
                    have := hrg3
                    rw [Maps.strike_twice] at this
                    exact this
                  have hst3 := (hst2.below (Below.refl _ _).drew).del hwf hrg4.owns hturn
                  have htd3 := (htd2.below (Below.refl _ _).drew).turned hturn
                  have hslc3 : Slc w3 (.slice (some ⟨rb, 0, none⟩) ws.length cap3) ws := by
                    obtain ⟨es, kk, hmm⟩ := hst2.wts.mapAt
                    exact hslc2.kept (fun b c t hb _ => hturn.grown.block b (lt_of_heap hb) (fun e => by cases e; rw [hb] at hmm; cases hmm))
                  have hS3 := hS.take (e := ((ko, ks), ws)) E1.out.1.wts.nodup hwf1 hem hce hle0
                  have hbd : td2.length + ws.length ≤ 1000002 := by
                    have c1 := hS.count
                    have c2 := total_strike (m := m2) (e := ((ko, ks), ws)) (by rw [hS.map_]; exact E1.out.1.wts.nodup.sublist (List.filter_sublist.map _)) (by rw [hS.map_]; exact List.mem_filter.2 ⟨hem, by simp [hle0]⟩)
                    obtain ⟨_, _, _, _, _, c3, _, c4⟩ := A.out
                    have c5 := A0.out.2.2.1
                    simp at c2 c3
                    omega
                  have G3 : Aside (TD w3 w.heap.size tg2 cap2 td2 ∧ LSt w q mb ab nb n sub sub2 (upd L' x.1 (newG (L' x.1) x.2)) (D2.del (kN (ko, ks))) (m2.filter (fun a => a.1 != (ko, ks))) w3 ∧ SInv (upd L' x.1 (newG (L' x.1) x.2)) m' td' (fun z => left z && !z.sameKey (kN (ko, ks))) (m2.filter (fun a => a.1 != (ko, ks))) (td2 ++ ws) ∧ w3.ranges Try.prog 73 rawR mb wx.heap.size n (D2.del (kN (ko, ks))) (fun z => left z && !z.sameKey (kN (ko, ks))) cnt3 ∧ Slc w3 (.slice (some ⟨rb, 0, none⟩) ws.length cap3) ws ∧ cnt3 < g1 ∧ td2.length + ws.length ≤ 1000002) := ⟨htd3, hst3, hS3, hrg4, hslc3, Nat.lt_of_le_of_lt hle3 hlt1, hbd⟩
                  clear htd2 hst2 hS hwf1 hwf hem hle0 hslc2 hlt1 hrg4 hrg3 hst3 htd3 hslc3 hS3 hbd G2 HK HR HW hy6 hyo hys hturn hle3
                  go_wp2
                  go_loopg [4, 77] ws.length (fun j v i wk => ∃ t tg3 cap4, t ≤ ws.length ∧ i = .int .i64 (t : Nat) ∧ j = ws.length - t ∧ v = .slice (some ⟨tg3, 0, none⟩) (td2 ++ ws.take t).length cap4 ∧ TD wk w.heap.size tg3 cap4 (td2 ++ ws.take t) ∧ LSt w q mb ab nb n sub sub2 (upd L' x.1 (newG (L' x.1) x.2)) (D2.del (kN (ko, ks))) (m2.filter (fun a => a.1 != (ko, ks))) wk ∧ wk.ranges Try.prog 73 rawR mb wx.heap.size n (D2.del (kN (ko, ks))) (fun z => left z && !z.sameKey (kN (ko, ks))) cnt3 ∧ Slc wk (.slice (some ⟨rb, 0, none⟩) ws.length cap3) ws)
                  case atStart =>
                    obtain ⟨htd3, hst3, hS3, hrg4, hslc3, hlt1, hbd⟩ := G3.out
                    exact ⟨0, tg2, cap2, Nat.zero_le _, rfl, rfl, by simp, by simpa using htd3, hst3, hrg4, hslc3⟩
                  case round =>
                    obtain ⟨t, tg3, cap4, htl, rfl, hgt, rfl, htd, hst, hrg, hslc⟩ := hrel
                    by_cases htw : t < ws.length
                    · obtain ⟨rb', cap', row, hv, k1, k2, k3, k4, k5⟩ := hslc
                      cases hv
                      obtain ⟨b, c, k6, k7, k8, k9⟩ := k5 t htw
                      have hbd : td2.length + ws.length ≤ 1000002 := G3.out.2.2.2.2.2.2
                      have hx1 := cell_of_block k1 k6
                      have hx2 := cell_of_block k7 k8
                      have hx3 := cell_of_block k7 k9
                      have hlb := lt_of_cell hx2
                      have hlr := lt_of_cell hx1
                      have hti : (t : Int) < ws.length := by omega
                      have hws : ws.length ≤ 1000002 := by omega
                      have hbase : w.heap.size ≤ wr.heap.size := hst.fr.size
                      have hapx : wr.ownsRow w.heap.size 73 2 (.slice (some ⟨tg3, 0, none⟩) (td2 ++ ws.take t).length cap4) (td2 ++ ws.take t).length (tcells (td2 ++ ws.take t)) := htd
                      have hln : (td2 ++ ws.take t).length = td2.length + t := by simp; omega
                      have HA : Hid (Slc wr (.slice (some ⟨rb, 0, none⟩) ws.length cap3) ws ∧ TD wr w.heap.size tg3 cap4 (td2 ++ ws.take t) ∧ LSt w q mb ab nb n sub sub2 (upd L' x.1 (newG (L' x.1) x.2)) (D2.del (kN (ko, ks))) (m2.filter (fun a => a.1 != (ko, ks))) wr ∧ wr.ranges Try.prog 73 rawR mb wx.heap.size n (D2.del (kN (ko, ks))) (fun z => left z && !z.sameKey (kN (ko, ks))) cnt3 ∧ gk = ws.length - t ∧ (td2 ++ ws.take t).length = td2.length + t) := ⟨⟨rb, cap3, row, rfl, k1, k2, k3, k4, k5⟩, htd, hst, hrg, hgt, hln⟩
                      obtain ⟨td3, e3⟩ : ∃ td3, td3 = td2 ++ ws.take t := ⟨_, rfl⟩
                      rw [← e3] at hapx hln ⊢
                      have H3 : Hid (td3 = td2 ++ ws.take t) := e3
                      have hbn : td3.length ≤ 1000002 := by omega
                      have HO : Hid (wr.ownsRow w.heap.size 73 2 (.slice (some ⟨tg3, 0, none⟩) td3.length cap4) td3.length (tcells td3)) := hapx
                      clear k1 k2 k3 k4 k5 k6 k7 k8 k9 htd hst hrg hgt hln e3 hapx hbd
                      obtain ⟨yo, ey1⟩ : ∃ yo, yo = (ws[t]).1 := ⟨_, rfl⟩
                      obtain ⟨ys, ey2⟩ : ∃ ys, ys = (ws[t]).2 := ⟨_, rfl⟩
                      rw [← ey1] at hx2
                      rw [← ey2] at hx3
                      have HY : Hid (yo = (ws[t]).1 ∧ ys = (ws[t]).2) := ⟨ey1, ey2⟩
                      clear ey1 ey2
                      obtain ⟨i0, hi, hz0, hz1, hz2⟩ := info_parts info73
                      go_wp2_with (at_builtin; refine wpList_append_lies _ rfl _ _ 94 rfl w.heap.size 73 i0 (.agg #[.int .i64 0, .int .u64 0]) 2 16 Try.underlying94 hi hz0 hz1 hz2 rfl (by omega) _ _ _ rfl (HO.out.alloc _) ⟨wr.heap.size, 0, none⟩ 1 1 [.int .i64 yo, .int .u64 ys] rfl rfl (cell_two_new' _ _ _ _) (by simp [Value.oneCell']) (by omega) (by unfold maxLen; omega) (by omega) (by simp; omega) (wr.heap.size + 1) (by simp) ?_; intro g5 cap5 w5 hown5 hgrow5 hat5 hlt5)
                      go_roundg (ws.length - (t + 1))
                      case measure =>
                        have := HA.out.2.2.2.2.1
                        omega
                      case rel =>
                        obtain ⟨hslc, htd, hst, hrg, hgt, hln⟩ := HA.out
                        exact ⟨t + 1, g5, cap5, by omega, by go_num, rfl, push_step htw H3.out HY.out.1 HY.out.2 hslc htd hst hrg hown5 hgrow5⟩
                    · have G4 : Aside (TD wr w.heap.size tg3 cap4 (td2 ++ ws.take t) ∧ LSt w q mb ab nb n sub sub2 (upd L' x.1 (newG (L' x.1) x.2)) (D2.del (kN (ko, ks))) (m2.filter (fun a => a.1 != (ko, ks))) wr ∧ wr.ranges Try.prog 73 rawR mb wx.heap.size n (D2.del (kN (ko, ks))) (fun z => left z && !z.sameKey (kN (ko, ks))) cnt3) := ⟨htd, hst, hrg⟩
                      clear htd hst hrg hslc hgt
                      go_wp2
                      go_roundg cnt3
                      case measure => exact G3.out.2.2.2.2.2.1
                      case rel =>
                        obtain ⟨htd, hst, hrg⟩ := G4.out
                        have e4 : ws.take t = ws := List.take_of_length_le (by omega)
                        have hS3 := G3.out.2.2.1
                        rw [← e4] at hS3
                        exact ⟨_, _, _, tg3, cap4, td2 ++ ws.take t, rfl, htd, hst, hrg, hS3⟩
                · have hce' : cov (upd L' x.1 (newG (L' x.1) x.2)) (ko, ks) = false := by simpa using hce
                  clear hce
                  go_wp2_with (go_at_call 49; refine (isLost_calls HQ.out HL.out ko ks hko hnb).mono ?_; rintro e w2 ⟨rfl, hb2⟩)
                  go_roundg cnt1
                  case measure => exact G1.out.2.2.2.2.2.2.2.2.2.1
                  case rel =>
                    obtain ⟨htd, hst, hS, hlr, hwf1, hwf, hem, hle0, hslc, hlt1, hg1, hrg1, hrg⟩ := G1.out
                    have hba : Below w1.heap.size w1 w2 := ((Below.refl _ _).alloc (Nat.le_refl _) _).trans (hb2.mono (by simp))
                    have hS' : SInv (upd L' x.1 (newG (L' x.1) x.2)) m' td' (fun z => left z && !z.sameKey (kN (ko, ks))) m2 td2 := hS.pass (e := ((ko, ks), ws)) hwf1 hem hce'
                    have h1 := htd.below hba
                    have h2 := hst.below hba
                    have h3 := ranges_below hrg1 hba
                    exact ⟨_, D2, m2, tg2, cap2, td2, rfl, h1, h2, h3, hS'⟩
end Go.Proofs.Qxb6602500a
