import Derived.Test.Qxb6612720aZin
namespace Go.Proofs.Qxb6612720a
open Go.RowKit
set_option maxRecDepth 100000

/-- A row of ints of the call's own. -/
def OwnI (w : World) (B : Nat) (v : Value) (zs : List Int) : Prop := w.ownsRow B 3 1 v zs.length (zs.map (Value.int .i64))

theorem OwnI.ints {w : World} {B : Nat} {v : Value} {zs : List Int} (h : OwnI w B v zs) : ∃ a cap, v = .slice a zs.length cap ∧ IntsIn w a zs := by
  rcases h.2 with ⟨h1, h2⟩ | ⟨g, cap, cur, h1, h2, h3, h4, h5, h6, h7⟩
  · have e : zs = [] := List.length_eq_zero_iff.1 h2
    subst e
    exact ⟨none, 0, h1, Or.inl rfl⟩
  · refine ⟨_, _, h1, Or.inr ⟨g, 0, rfl, fun i hi => ?_⟩⟩
    have at' : ∀ j, j < zs.length * 1 → cur[j]? = (zs.map (Value.int .i64))[j]? := fun j hj => by
      rw [← h7, List.getElem?_take, if_pos hj, Array.getElem?_toList]
    have := at' i (by omega)
    rw [List.getElem?_map, List.getElem?_eq_getElem hi] at this
    rw [Nat.zero_add]
    exact cell_of_block h3 this
theorem OwnI.later {w w' : World} {B : Nat} {v : Value} {zs : List Int} (h : OwnI w B v zs) (hb : Below w.heap.size w w') : OwnI w' B v zs := by
  refine ⟨h.1, ?_⟩
  rcases h.2 with h1 | ⟨g, cap, cur, h1, h2, h3, h4⟩
  · exact Or.inl h1
  · exact Or.inr ⟨g, cap, cur, h1, h2, (hb.block _ (lt_of_heap h3)).trans h3, h4⟩
/-- Another row than the one that grew. -/
theorem OwnI.other {w w' : World} {B : Nat} {v v' : Value} {zs : List Int} (h : OwnI w B v zs) (hg : w.grownBy w' v'.ownBlock) (hne : ∀ k, v.ownBlock = some k → v'.ownBlock ≠ some k) : OwnI w' B v zs := by
  refine ⟨h.1, ?_⟩
  rcases h.2 with h1 | ⟨g, cap, cur, h1, h2, h3, h4⟩
  · exact Or.inl h1
  · refine Or.inr ⟨g, cap, cur, h1, h2, (hg.block _ (lt_of_heap h3) (fun e => hne g (by rw [h1]; rfl) e.symm)).trans h3, h4⟩
theorem OwnI.block {w : World} {B : Nat} {v : Value} {zs : List Int} (h : OwnI w B v zs) {k : Nat} (hk : v.ownBlock = some k) : B ≤ k ∧ k < w.heap.size := by
  rcases h.2 with ⟨h1, _⟩ | ⟨g, cap, cur, h1, h2, h3, _⟩
  · rw [h1] at hk; cases hk
  · rw [h1] at hk
    cases hk
    exact ⟨h2, lt_of_heap h3⟩
theorem OwnI.push {w : World} {B : Nat} {v : Value} {zs : List Int} {z : Int} (h : w.ownsRow B 3 1 v (zs.length + 1) (zs.map (Value.int .i64) ++ [.int .i64 z])) : OwnI w B v (zs ++ [z]) := by
  unfold OwnI
  rw [List.map_append, List.length_append]
  exact h
theorem OwnI.nil (w : World) (B : Nat) : OwnI w B (.slice none 0 0) [] := World.ownsRow_nil _ _ _ _

/-- What 'ZZNumber' leaves. -/
def ZOut (w w' : World) (v1 v2 : Value) (b1 b2 : Nat) (ws : List (Int × Int)) (now : Int) (ls : List (ByteArray × ByteArray × List (Int × Int))) (us : List (ByteArray × List (Int × Int))) : Prop :=
  ∃ R a1 c1 a2 c2, R.Nodup ∧ (∀ x, x ∈ R ↔ ((∃ l ∈ ls, x ∈ l.2.2) ∨ (∃ l ∈ us, x ∈ l.2)) ∧ okW ws now x = true) ∧ R.length ≤ 200000 ∧ v1 = .slice a1 R.length c1 ∧ v2 = .slice a2 R.length c2 ∧ IntsIn w' a1 (R.map (·.1)) ∧ IntsIn w' a2 (R.map (·.2)) ∧
    (∀ i (h : i < ls.length), ∃ v, w'.cell? ⟨b1, i, none⟩ = some v ∧ BitOf w' R (ls[i]).2.2 v) ∧ (∀ i (h : i < us.length), ∃ v, w'.cell? ⟨b2, i, none⟩ = some v ∧ BitOf w' R (us[i]).2 v) ∧ Below w.heap.size w w'

/-- The state while the maps are filled. -/
structure ZSt (w wi : World) (ws : List (Int × Int)) (nl nu : Nat) (ls : List (ByteArray × ByteArray × List (Int × Int))) (us : List (ByteArray × List (Int × Int))) : Prop where
  e : wi.heap[w.heap.size + 1]? = some (.cells #[.pointer none, .slice (some ⟨w.heap.size, 0, none⟩) ws.length ws.length, .slice none 0 0, .map none] 102 (0, 0))
  sets : SetsIn wi w.heap.size ws
  fx : wi.heap[w.heap.size + 1 + 1 + 1 + 1]? = some (.cells #[.map (some (w.heap.size + 1 + 1)), .map (some (w.heap.size + 1 + 1 + 1))] 109 (0, 0))
  l : ∃ D m, LsIn wi 112 (w.heap.size + 1 + 1) nl wi.heap.size D m (lkL ls nl)
  u : ∃ D m, LsIn wi 9 (w.heap.size + 1 + 1 + 1) nu wi.heap.size D m (lkU us nu)
  bel : Below w.heap.size w wi

theorem ZSt.later {w wi wj : World} {ws : List (Int × Int)} {nl nu : Nat} {ls : List (ByteArray × ByteArray × List (Int × Int))} {us : List (ByteArray × List (Int × Int))} (h : ZSt w wi ws nl nu ls us) (hb : Below wi.heap.size wi wj) : ZSt w wj ws nl nu ls us := by
  obtain ⟨h1, h2, h3, ⟨D, m, h4⟩, ⟨D', m', h5⟩, h6⟩ := h
  exact ⟨(hb.block _ (lt_of_heap h1)).trans h1, h2.kept (hb.block _ h2.lt), (hb.block _ (lt_of_heap h3)).trans h3, ⟨D, m, (h4.later hb).bd⟩, ⟨D', m', (h5.later hb).bd⟩, h6.trans (hb.mono h6.size)⟩

theorem below_turned {B mb : Nat} {w w' : World} (h : w.mapTurned w' mb) (hB : B ≤ mb) (hs : B ≤ w.heap.size) : Below B w w' :=
  ⟨h.grown.os, h.grown.tape, h.grown.output, h.grown.size, fun k hk => h.grown.block k (by omega) (fun e => by have := Option.some.inj e; omega)⟩

theorem ZSt.putL {w wi : World} {ws : List (Int × Int)} {k nu : Nat} {ls : List (ByteArray × ByteArray × List (Int × Int))} {us : List (ByteArray × List (Int × Int))} (h : ZSt w wi ws k nu ls us) (G : Good ws ls us) (hk : k < ls.length) {N : Nat} (hcp : CpR wi N (ls[k]).2.2 (ls[k]).2.2.length) :
    ∃ w', (Instr.mapUpdate 106 (.map (some (w.heap.size + 1 + 1))) (kvS (ls[k]).1 (ls[k]).2.1) (.slice (some ⟨N, 0, none⟩) (ls[k]).2.2.length (ls[k]).2.2.length)).run Try.prog wi = .ok () w' ∧ ZSt w w' ws (k + 1) nu ls us ∧ wi.mapTurned w' (w.heap.size + 1 + 1) := by
  obtain ⟨h1, ⟨cS, h2, h2'⟩, h3, ⟨D, m, h4⟩, ⟨D', m', h5⟩, h6⟩ := h
  obtain ⟨w', D2, hrun, hls, ht⟩ := h4.store law112 Try.underlying106 (by have := G.l; unfold maxLen; omega) (keyS_mk (G.l1 k hk).1) (fun _ => lkL_fresh G hk) hcp
  refine ⟨w', hrun, ⟨mt_block ht h1, ⟨cS, mt_block ht h2, h2'⟩, mt_block ht h3, ⟨_, _, by rw [lkL_next hk]; exact hls⟩, ⟨D', m', ((h5.turned ht (by omega))).bd⟩, h6.trans (below_turned ht (by omega) h6.size)⟩, ht⟩

theorem ZSt.putU {w wi : World} {ws : List (Int × Int)} {k nl : Nat} {ls : List (ByteArray × ByteArray × List (Int × Int))} {us : List (ByteArray × List (Int × Int))} (h : ZSt w wi ws nl k ls us) (G : Good ws ls us) (hk : k < us.length) {N : Nat} (hcp : CpR wi N (us[k]).2 (us[k]).2.length) :
    ∃ w', (Instr.mapUpdate 107 (.map (some (w.heap.size + 1 + 1 + 1))) (kvT (us[k]).1) (.slice (some ⟨N, 0, none⟩) (us[k]).2.length (us[k]).2.length)).run Try.prog wi = .ok () w' ∧ ZSt w w' ws nl (k + 1) ls us ∧ wi.mapTurned w' (w.heap.size + 1 + 1 + 1) := by
  obtain ⟨h1, ⟨cS, h2, h2'⟩, h3, ⟨D, m, h4⟩, ⟨D', m', h5⟩, h6⟩ := h
  obtain ⟨w', D2, hrun, hls, ht⟩ := h5.store law9 Try.underlying107 (by have := G.u; unfold maxLen; omega) (keyT_mk (G.u1 k hk).1) (fun _ => lkU_fresh G hk) hcp
  refine ⟨w', hrun, ⟨mt_block ht h1, ⟨cS, mt_block ht h2, h2'⟩, mt_block ht h3, ⟨D, m, ((h4.turned ht (by omega))).bd⟩, ⟨_, _, by rw [lkU_next hk]; exact hls⟩, h6.trans (below_turned ht (by omega) h6.size)⟩, ht⟩

theorem flat_lkL (ls : List (ByteArray × ByteArray × List (Int × Int))) : ∀ k, k ≤ ls.length → ((lkL ls k).flatMap (·.2)).length = ((ls.take k).flatMap (·.2.2)).length := by
  intro k
  induction k with
  | zero => intro _; simp [lkL]
  | succ k ih =>
    intro hk
    rw [lkL_next hk, flat_next hk, List.flatMap_cons, List.length_append, List.length_append, ih (by omega)]
    exact Nat.add_comm _ _
theorem flat_lkU (us : List (ByteArray × List (Int × Int))) : ∀ k, k ≤ us.length → ((lkU us k).flatMap (·.2)).length = ((us.take k).flatMap (·.2)).length := by
  intro k
  induction k with
  | zero => intro _; simp [lkU]
  | succ k ih =>
    intro hk
    rw [lkU_next hk, flat_next hk, List.flatMap_cons, List.length_append, List.length_append, ih (by omega)]
    exact Nat.add_comm _ _
theorem ex_lkL {ls : List (ByteArray × ByteArray × List (Int × Int))} {x : Int × Int} : (∃ l ∈ lkL ls ls.length, x ∈ l.2) ↔ ∃ l ∈ ls, x ∈ l.2.2 := by
  constructor
  · rintro ⟨l, hl, hx⟩
    obtain ⟨i, hi, _, rfl⟩ := mem_lkL.1 hl
    exact ⟨_, List.getElem_mem hi, hx⟩
  · rintro ⟨l, hl, hx⟩
    obtain ⟨i, hi, rfl⟩ := List.getElem_of_mem hl
    exact ⟨_, mem_lkL.2 ⟨i, hi, hi, rfl⟩, hx⟩
theorem ex_lkU {us : List (ByteArray × List (Int × Int))} {x : Int × Int} : (∃ l ∈ lkU us us.length, x ∈ l.2) ↔ ∃ l ∈ us, x ∈ l.2 := by
  constructor
  · rintro ⟨l, hl, hx⟩
    obtain ⟨i, hi, _, rfl⟩ := mem_lkU.1 hl
    exact ⟨_, List.getElem_mem hi, hx⟩
  · rintro ⟨l, hl, hx⟩
    obtain ⟨i, hi, rfl⟩ := List.getElem_of_mem hl
    exact ⟨_, mem_lkU.2 ⟨i, hi, hi, rfl⟩, hx⟩
theorem nin_of {w wi : World} {ws : List (Int × Int)} {ls : List (ByteArray × ByteArray × List (Int × Int))} {us : List (ByteArray × List (Int × Int))} (G : Good ws ls us) (h : ZSt w wi ws ls.length us.length ls us) {DL DU : DataW Value} {mL mU : List (Lit × Value)} (hl : LsIn wi 112 (w.heap.size + 1 + 1) ls.length wi.heap.size DL mL (lkL ls ls.length)) (hu : LsIn wi 9 (w.heap.size + 1 + 1 + 1) us.length wi.heap.size DU mU (lkU us us.length)) :
    NIn wi (w.heap.size + 1) w.heap.size (w.heap.size + 1 + 1) (w.heap.size + 1 + 1 + 1) ls.length us.length (.pointer none) (.map none) ws DL DU mL mU (lkL ls ls.length) (lkU us us.length) := by
  refine ⟨h.e, h.sets, hl, hu, fun x hx => ?_, fun x hx => ?_, ?_, ?_, by have := G.l; omega, by have := G.u; omega⟩
  · obtain ⟨i, hi, _, rfl⟩ := mem_lkL.1 hx
    exact (G.l1 i hi).2
  · obtain ⟨i, hi, _, rfl⟩ := mem_lkU.1 hx
    exact (G.u1 i hi).2
  · rw [flat_lkL ls _ (Nat.le_refl _), List.take_length]
    exact G.lt
  · rw [flat_lkU us _ (Nat.le_refl _), List.take_length]
    exact G.ut
theorem cell_grown {w w' : World} {row : Option Nat} (hg : w.grownBy w' row) {b o : Nat} {v : Value} (hc : w.cell? ⟨b, o, none⟩ = some v) (hne : row ≠ some b) : w'.cell? ⟨b, o, none⟩ = some v := by
  have e := hg.block b (World.block_lt_of_cell? w ⟨b, o, none⟩ hc) (fun e => hne e.symm)
  rw [← hc]
  simp only [World.cell?, e]
/-- A row of bitsets under way; each is one of the world W. -/
def CpB (w W : World) (LB n : Nat) (R : List (Int × Int)) (f : Nat → List (Int × Int)) (k : Nat) : Prop :=
  ∃ c : Array Value, w.heap[LB]? = some (.cells c 70 (0, 0)) ∧ c.size = n ∧ ∀ i, i < n → i < k → ∃ v, c[i]? = some v ∧ BitOf W R (f i) v
theorem CpB.step {w W : World} {LB n : Nat} {R : List (Int × Int)} {f : Nat → List (Int × Int)} {k : Nat} (h : CpB w W LB n R f k) (hk : k < n) {v : Value} (hv : BitOf W R (f k) v) : CpB (w.setCell ⟨LB, k, none⟩ v) W LB n R f (k + 1) := by
  obtain ⟨c, h1, h2, h3⟩ := h
  refine ⟨_, block_set h1 _, by simp [h2], fun i hi hik => ?_⟩
  by_cases e : k = i
  · subst e
    exact ⟨v, by rw [Array.getElem?_setIfInBounds_self_of_lt (by omega)], hv⟩
  · obtain ⟨u, h4, h5⟩ := h3 i hi (by omega)
    exact ⟨u, by rw [Array.getElem?_setIfInBounds_ne e]; exact h4, h5⟩
theorem BsIn.at {w : World} {KT t e : TypeId} {FB : Nat} {R : List (Int × Int)} {L : List (Lit × List (Int × Int))} (h : BsIn w KT FB R L) (K : Maps.Keyed Try.prog KT) (ht : Try.prog.underlying t = some (.map KT e)) {kv z : Value} {kl : Lit} {rs : List (Int × Int)} (hk : keyOf Try.prog KT kv = some kl) (hx : (kl, rs) ∈ L) (hz : ∀ wy, (zeroValue e).run Try.prog wy = .ok z wy) :
    ∃ v, BitOf w R rs v ∧ ∀ wy, Below w.heap.size w wy → (Instr.lookup t (.map (some FB)) kv false).run Try.prog wy = .ok v wy := by
  obtain ⟨n, D, m, h1, h2⟩ := h
  obtain ⟨v, h3, h4⟩ := h2 _ hx
  exact ⟨v, h4, fun wy hb => (h1.later hb).look K ht (hz wy) hk h3⟩
theorem one_new (w : World) (x : Value) (t : TypeId) : ∀ j u, [x][j]? = some u → (w.alloc (.cells #[x] t)).cell? ((⟨w.heap.size, 0, none⟩ : Addr).add j) = some u := by
  intro j u hu
  rw [WideShapes.add_plain, Nat.zero_add]
  refine cell_of_block (new_block0 _ _ _ rfl) ?_
  match j, hu with
  | 0, hu => simpa using hu

set_option maxHeartbeats 8000000 in
theorem zz_calls (w : World) (bN bA bT bI bS bG bV bX bY : Nat) (ws : List (Int × Int)) (ls : List (ByteArray × ByteArray × List (Int × Int))) (us : List (ByteArray × List (Int × Int))) (now : Int)
    (h : ZIn w bN bA bT bI bS bG bV bX bY ws ls us) (hG : Good ws ls us) :
    Calls Try.prog 29 #[.slice (some ⟨bN, 0, none⟩) ws.length ws.length, .slice (some ⟨bA, 0, none⟩) ws.length ws.length, .slice (some ⟨bT, 0, none⟩) ls.length ls.length, .slice (some ⟨bI, 0, none⟩) ls.length ls.length, .slice (some ⟨bS, 0, none⟩) ls.length ls.length, .slice (some ⟨bG, 0, none⟩) ls.length ls.length, .slice (some ⟨bV, 0, none⟩) us.length us.length, .slice (some ⟨bX, 0, none⟩) us.length us.length, .slice (some ⟨bY, 0, none⟩) us.length us.length, .int .i64 now] w fun e w' => ∃ v1 v2 b1 b2, e = .returned (.tuple #[v1, v2, .slice (some ⟨b1, 0, none⟩) ls.length ls.length, .slice (some ⟨b2, 0, none⟩) us.length us.length]) ∧ ZOut w w' v1 v2 b1 b2 ws now ls us := by
  have H0 : Hid (ZIn w bN bA bT bI bS bG bV bX bY ws ls us ∧ Good ws ls us) := ⟨h, hG⟩
  have lws := hG.s
  have lls := hG.l
  have lus := hG.u
  clear h hG
  have hmm := @run_makeMap Try.prog
  obtain ⟨i5, hi5, hz50, hz51, hz52⟩ := info_parts info105
  go_enter Try.func29, Try.ntmps29
  go_wp2_with (at_make; refine wpList_make_cap _ rfl _ _ 97 rfl 105 i5 (.agg #[.int .i64 0, .int .i64 0, .int .i64 0, .slice none 0 0, .slice none 0 0]) 5 Try.underlying97 hi5 hz50 hz51 .i64 .i64 _ _ ws.length ws.length rfl rfl (by simp) (by simp) (Nat.le_refl _) (by rw [hz52]; omega) (by unfold maxLen; omega) ?_)
  go_loopg [45] ws.length (fun j i wi => ∃ k : Nat, k ≤ ws.length ∧ i = .int .i64 k ∧ j = ws.length - k ∧ CpS wi w.heap.size ws k ∧ wi.heap[w.heap.size + 1]? = some (.cells #[.pointer none, .slice (some ⟨w.heap.size, 0, none⟩) ws.length ws.length, .slice none 0 0, .map none] 102 (0, 0)) ∧ wi.heap.size = w.heap.size + 1 + 1 ∧ Below w.heap.size w wi)
  case atStart =>
    refine ⟨0, Nat.zero_le _, rfl, rfl, ⟨_, (Below.heap_alloc _ _ _ (by simp)).trans (new_block0 _ _ _ rfl), zrow_size _ _, fun i _ h0 => absurd h0 (by omega)⟩, new_block0 _ _ _ (by simp), by simp, ((Below.refl _ _).alloc (Nat.le_refl _) _).alloc (by simp) _⟩
  case round =>
    obtain ⟨k, hk, rfl, hgk, hcp, hee, hsz, hbel⟩ := hrel
    by_cases hlt : k < ws.length
    · have y0 := cell_later hbel (H0.out.1.n k hlt)
      have y1 := cell_later hbel (H0.out.1.a k hlt)
      have lN := World.block_lt_of_cell? w ⟨bN, k, none⟩ (H0.out.1.n k hlt)
      have lA := World.block_lt_of_cell? w ⟨bA, k, none⟩ (H0.out.1.a k hlt)
      simp only at lN lA
      have cE : wr.cell? ⟨w.heap.size + 1, 1, none⟩ = some (.slice (some ⟨w.heap.size, 0, none⟩) ws.length ws.length) := cell_of_block hee rfl
      obtain ⟨nb, hnb⟩ : ∃ nb, nb = (ws.getD k (0, 0)).1 := ⟨_, rfl⟩
      obtain ⟨na, hna⟩ : ∃ na, na = (ws.getD k (0, 0)).2 := ⟨_, rfl⟩
      rw [← hnb] at y0
      rw [← hna] at y1
      have HC : Hid (CpS wr w.heap.size ws k ∧ wr.heap[w.heap.size + 1]? = some (.cells #[.pointer none, .slice (some ⟨w.heap.size, 0, none⟩) ws.length ws.length, .slice none 0 0, .map none] 102 (0, 0)) ∧ wr.heap.size = w.heap.size + 1 + 1 ∧ Below w.heap.size w wr ∧ gk = ws.length - k ∧ nb = (ws.getD k (0, 0)).1 ∧ na = (ws.getD k (0, 0)).2) := ⟨hcp, hee, hsz, hbel, hgk, hnb, hna⟩
      obtain ⟨c, h1, h2, h3⟩ := hcp
      obtain ⟨z0, hv0⟩ := some_at (c := c) (j := k * 5) (by omega)
      obtain ⟨z1, hv1⟩ := some_at (c := c) (j := k * 5 + 1) (by omega)
      obtain ⟨z2, hv2⟩ := some_at (c := c) (j := k * 5 + 2) (by omega)
      obtain ⟨z3, hv3⟩ := some_at (c := c) (j := k * 5 + 3) (by omega)
      obtain ⟨z4, hv4⟩ := some_at (c := c) (j := k * 5 + 4) (by omega)
      have q0 := cell_of_block h1 hv0
      have q1 := cell_of_block h1 hv1
      have q2 := cell_of_block h1 hv2
      have q3 := cell_of_block h1 hv3
      have q4 := cell_of_block h1 hv4
      have f0 : wr.frozen? ⟨w.heap.size, k * 5, none⟩ = false := free_of_block h1
      have f1 : wr.frozen? ⟨w.heap.size, k * 5 + 1, none⟩ = false := free_of_block h1
      have f2 : wr.frozen? ⟨w.heap.size, k * 5 + 2, none⟩ = false := free_of_block h1
      have f3 : wr.frozen? ⟨w.heap.size, k * 5 + 3, none⟩ = false := free_of_block h1
      have f4 : wr.frozen? ⟨w.heap.size, k * 5 + 4, none⟩ = false := free_of_block h1
      have hki : (k : Int) < ws.length := by omega
      clear h1 h2 h3 hv0 hv1 hv2 hv3 hv4 hee hsz hbel hgk hnb hna
      go_wp2_with fail
      go_region_held3 (fun wy => wy.cell? ⟨bN, k, none⟩ = some (.int .i64 nb) ∧ wy.cell? ⟨bA, k, none⟩ = some (.int .i64 na) ∧ wy.cell? ⟨w.heap.size + 1, 1, none⟩ = some (.slice (some ⟨w.heap.size, 0, none⟩) ws.length ws.length)) (first | (go_keep; done) | (go_simp; done)) (fail)
      go_wp2_with fail
      go_roundg (ws.length - (k + 1))
      case measure => have := HC.out.2.2.2.2.1; omega
      case rel =>
        obtain ⟨a1, a2, a3, a4, a5, a6, a7⟩ := HC.out
        refine ⟨k + 1, by omega, by go_num, rfl, ?_, ?_, ?_, ?_⟩
        · rw [a6, a7]
          exact a1.step hlt _ _ _
        · have : w.heap.size + 1 ≠ w.heap.size := by omega
          show (((((wr.setCell _ _).setCell _ _).setCell _ _).setCell _ _).setCell _ _).heap[_]? = _
          rw [Below.heap_setCell _ _ _ _ this, Below.heap_setCell _ _ _ _ this, Below.heap_setCell _ _ _ _ this, Below.heap_setCell _ _ _ _ this, Below.heap_setCell _ _ _ _ this]
          exact a2
        · simp [World.setCell]
          omega
        · exact (((((a4.setCell (Nat.le_refl _) _).setCell (Nat.le_refl _) _).setCell (Nat.le_refl _) _).setCell (Nat.le_refl _) _).setCell (Nat.le_refl _) _).drew
    · have HC : Hid (CpS wr w.heap.size ws k ∧ wr.heap[w.heap.size + 1]? = some (.cells #[.pointer none, .slice (some ⟨w.heap.size, 0, none⟩) ws.length ws.length, .slice none 0 0, .map none] 102 (0, 0)) ∧ Below w.heap.size w wr) := ⟨hcp, hee, hbel⟩
      have hkw : k = ws.length := by omega
      clear hcp hee hbel hgk
      obtain ⟨wq, hwq⟩ : ∃ wq, wq = wr := ⟨_, rfl⟩
      subst hwq
      go_wp2_with fail
      have hbq : Below wq.heap.size wq (((wq.alloc (Obj.map #[] 0)).alloc (Obj.map #[] 0)).alloc (Obj.cells #[Value.map (some (w.heap.size + 1 + 1)), Value.map (some (w.heap.size + 1 + 1 + 1))] 109)) := (((Below.refl _ _).alloc (Nat.le_refl _) _).alloc (by simp) _).alloc (by simp; omega) _
      have Z0 : Hid (ZSt w (((wq.alloc (Obj.map #[] 0)).alloc (Obj.map #[] 0)).alloc (Obj.cells #[Value.map (some (w.heap.size + 1 + 1)), Value.map (some (w.heap.size + 1 + 1 + 1))] 109)) ws 0 0 ls us) := by
        obtain ⟨⟨c, h1, h2, h3⟩, h4, h5⟩ := HC.out
        have m1 : MapIs (wq.alloc (Obj.map #[] 0)) 112 wq.heap.size 0 (.map []) [] := ⟨World.ownsMap_made wq Try.prog 112 rawR, fun l hl => by simp [Maps.has] at hl, fun e he => by simp at he, by simp⟩
        have m2 : MapIs ((wq.alloc (Obj.map #[] 0)).alloc (Obj.map #[] 0)) 9 (wq.alloc (Obj.map #[] 0)).heap.size 0 (.map []) [] := ⟨World.ownsMap_made (wq.alloc (Obj.map #[] 0)) Try.prog 9 rawR, fun l hl => by simp [Maps.has] at hl, fun e he => by simp at he, by simp⟩
        have e2 : (wq.alloc (Obj.map #[] 0)).heap.size = w.heap.size + 1 + 1 + 1 := by simp; omega
        rw [hsz] at m1
        rw [e2] at m2
        refine ⟨(hbq.block _ (lt_of_heap h4)).trans h4, ⟨c, (hbq.block _ (lt_of_heap h1)).trans h1, fun i hi => h3 i hi (by omega)⟩, new_block0 _ _ _ (by simp; omega), ⟨_, _, (m1.later ((Below.refl _ _).alloc (Nat.le_refl _) _)).later ((Below.refl _ _).alloc (Nat.le_refl _) _), fun e he => by simp at he, fun x hx => ?_, fun kl r1 r2 h1 _ => ?_⟩, ⟨_, _, m2.later ((Below.refl _ _).alloc (Nat.le_refl _) _), fun e he => by simp at he, fun x hx => ?_, fun kl r1 r2 h1 _ => ?_⟩, h5.trans (hbq.mono h5.size)⟩
        · simp [lkL] at hx
        · simp [lkL] at h1
        · simp [lkU] at hx
        · simp [lkU] at h1
      clear hbq hsz HC hkw
      go_loopg [69] ls.length (fun j i wi => ∃ t : Nat, t ≤ ls.length ∧ i = .int .i64 t ∧ j = ls.length - t ∧ ZSt w wi ws t 0 ls us)
      case atStart => exact ⟨0, Nat.zero_le _, rfl, rfl, Z0.out⟩
      case round =>
        obtain ⟨t, ht, rfl, hgt, hst⟩ := hrel
        by_cases htl : t < ls.length
        · have c0 := cell_later hst.bel (H0.out.1.t t htl)
          have c1 := cell_later hst.bel (H0.out.1.i t htl)
          obtain ⟨ra, c2', hra⟩ := H0.out.1.s t htl
          obtain ⟨rb, c3', hrb⟩ := H0.out.1.g t htl
          have c2 := cell_later hst.bel c2'
          have c3 := cell_later hst.bel c3'
          have cf : wr.cell? ⟨w.heap.size + 1 + 1 + 1 + 1, 0, none⟩ = some (.map (some (w.heap.size + 1 + 1))) := cell_of_block hst.fx rfl
          obtain ⟨A, hA⟩ : ∃ A, A = (ls[t]).1 := ⟨_, rfl⟩
          obtain ⟨B, hB⟩ : ∃ B, B = (ls[t]).2.1 := ⟨_, rfl⟩
          obtain ⟨rs, hrs⟩ : ∃ rs, rs = (ls[t]).2.2 := ⟨_, rfl⟩
          rw [← hA] at c0
          rw [← hB] at c1
          rw [← hrs] at c2 c3 hra hrb
          have hrl : rs.length ≤ 100000 := by
            have h1 := flat_le ls (·.2.2) (t + 1)
            rw [flat_next htl, List.length_append, ← hrs] at h1
            have := H0.out.2.lt
            omega
          have HP : Hid (∀ wy N, Below wr.heap.size wr wy → CpR wy N rs rs.length → ∃ w7, (Instr.mapUpdate 106 (.map (some (w.heap.size + 1 + 1))) (kvS A B) (.slice (some ⟨N, 0, none⟩) rs.length rs.length)).run Try.prog wy = .ok () w7 ∧ ZSt w w7 ws (t + 1) 0 ls us ∧ wy.mapTurned w7 (w.heap.size + 1 + 1)) := by
            intro wy N hb hcp
            rw [hrs] at hcp ⊢
            rw [hA, hB]
            exact (hst.later hb).putL H0.out.2 htl hcp
          have HK : Hid (∀ wy, Below wr.heap.size wr wy → wy.cell? ⟨bT, t, none⟩ = some (.string A) ∧ wy.cell? ⟨bI, t, none⟩ = some (.string B) ∧ wy.cell? ⟨bS, t, none⟩ = some (.slice ra rs.length rs.length) ∧ wy.cell? ⟨bG, t, none⟩ = some (.slice rb rs.length rs.length) ∧ wy.cell? ⟨w.heap.size + 1 + 1 + 1 + 1, 0, none⟩ = some (.map (some (w.heap.size + 1 + 1)))) := fun wy hb => ⟨cell_later hb c0, cell_later hb c1, cell_later hb c2, cell_later hb c3, cell_later hb cf⟩
          have HK7 : Hid (∀ wy wz, Below wr.heap.size wr wy → wy.mapTurned wz (w.heap.size + 1 + 1) → wz.cell? ⟨bT, t, none⟩ = some (.string A) ∧ wz.cell? ⟨bI, t, none⟩ = some (.string B) ∧ wz.cell? ⟨bS, t, none⟩ = some (.slice ra rs.length rs.length) ∧ wz.cell? ⟨bG, t, none⟩ = some (.slice rb rs.length rs.length) ∧ wz.cell? ⟨w.heap.size + 1 + 1 + 1 + 1, 0, none⟩ = some (.map (some (w.heap.size + 1 + 1)))) := fun wy wz hb ht => by
            obtain ⟨x1, x2, x3, x4, x5⟩ := HK.out wy hb
            exact ⟨mt_cell ht x1, mt_cell ht x2, mt_cell ht x3, mt_cell ht x4, mt_cell ht x5⟩
          have HR : Hid (IntsIn wr.drew ra (rs.map (·.1)) ∧ IntsIn wr.drew rb (rs.map (·.2)) ∧ gk = ls.length - t) := ⟨(hra.later hst.bel).later (Below.refl _ _).drew, (hrb.later hst.bel).later (Below.refl _ _).drew, hgt⟩
          have hti : (t : Int) < ls.length := by omega
          clear hst hgt hra hrb c2' c3' hA hB hrs
          go_wp2_with fail
          go_region_held3 (fun wy => wy.cell? ⟨bT, t, none⟩ = some (.string A) ∧ wy.cell? ⟨bI, t, none⟩ = some (.string B) ∧ wy.cell? ⟨bS, t, none⟩ = some (.slice ra rs.length rs.length) ∧ wy.cell? ⟨bG, t, none⟩ = some (.slice rb rs.length rs.length) ∧ wy.cell? ⟨w.heap.size + 1 + 1 + 1 + 1, 0, none⟩ = some (.map (some (w.heap.size + 1 + 1))))
            (first | (exact HK7.out _ _ ((Below.refl _ _).drew.trans hb6) hturn7) | (exact HK.out _ ((Below.refl _ _).drew.trans hb6)) | (go_keep; done))
            (first
              | (go_at_call 31; refine (zzRefs_calls _ ra rb rs.length rs.length rs HR.out.1 HR.out.2.1 (by omega)).mono ?_; rintro e w6 ⟨rfl, hsz6, hcp6, hb6⟩; obtain ⟨w7, hput, hst7, hturn7⟩ := HP.out w6 wr.heap.size ((Below.refl _ _).drew.trans hb6) hcp6; simp only [kvS] at hput))
          have HZ : Hid (ZSt w w7 ws (t + 1) 0 ls us) := hst7
          clear hst7 hturn7 hput hcp6 hsz6 hb6
          go_wp2_with fail
          go_roundg (ls.length - (t + 1))
          case measure => have := HR.out.2.2; omega
          case rel => exact ⟨t + 1, by omega, by go_num, rfl, HZ.out⟩
        · have Z1 : Hid (ZSt w wr ws ls.length 0 ls us) := by
            have e : t = ls.length := by omega
            rw [e] at hst
            exact hst
          clear hst hgt
          obtain ⟨wp, hwp⟩ : ∃ wp, wp = wr := ⟨_, rfl⟩
          subst hwp
          go_wp2_with fail
          go_loopg [95] us.length (fun j i wi => ∃ t : Nat, t ≤ us.length ∧ i = .int .i64 t ∧ j = us.length - t ∧ ZSt w wi ws ls.length t ls us)
          case atStart => exact ⟨0, Nat.zero_le _, rfl, rfl, Z1.out⟩
          case round =>
            obtain ⟨t, ht, rfl, hgt, hst⟩ := hrel
            by_cases htl : t < us.length
            · have c0 := cell_later hst.bel (H0.out.1.v t htl)
              obtain ⟨ra, c2', hra⟩ := H0.out.1.x t htl
              obtain ⟨rb, c3', hrb⟩ := H0.out.1.y t htl
              have c2 := cell_later hst.bel c2'
              have c3 := cell_later hst.bel c3'
              have cf : wr.cell? ⟨w.heap.size + 1 + 1 + 1 + 1, 1, none⟩ = some (.map (some (w.heap.size + 1 + 1 + 1))) := cell_of_block hst.fx rfl
              obtain ⟨A, hA⟩ : ∃ A, A = (us[t]).1 := ⟨_, rfl⟩
              obtain ⟨rs, hrs⟩ : ∃ rs, rs = (us[t]).2 := ⟨_, rfl⟩
              rw [← hA] at c0
              rw [← hrs] at c2 c3 hra hrb
              have hrl : rs.length ≤ 100000 := by
                have h1 := flat_le us (·.2) (t + 1)
                rw [flat_next htl, List.length_append, ← hrs] at h1
                have := H0.out.2.ut
                omega
              have HP : Hid (∀ wy N, Below wr.heap.size wr wy → CpR wy N rs rs.length → ∃ w7, (Instr.mapUpdate 107 (.map (some (w.heap.size + 1 + 1 + 1))) (kvT A) (.slice (some ⟨N, 0, none⟩) rs.length rs.length)).run Try.prog wy = .ok () w7 ∧ ZSt w w7 ws ls.length (t + 1) ls us ∧ wy.mapTurned w7 (w.heap.size + 1 + 1 + 1)) := by
                intro wy N hb hcp
                rw [hrs] at hcp ⊢
                rw [hA]
                exact (hst.later hb).putU H0.out.2 htl hcp
              have HK : Hid (∀ wy, Below wr.heap.size wr wy → wy.cell? ⟨bV, t, none⟩ = some (.string A) ∧ wy.cell? ⟨bX, t, none⟩ = some (.slice ra rs.length rs.length) ∧ wy.cell? ⟨bY, t, none⟩ = some (.slice rb rs.length rs.length) ∧ wy.cell? ⟨w.heap.size + 1 + 1 + 1 + 1, 1, none⟩ = some (.map (some (w.heap.size + 1 + 1 + 1)))) := fun wy hb => ⟨cell_later hb c0, cell_later hb c2, cell_later hb c3, cell_later hb cf⟩
              have HK7 : Hid (∀ wy wz, Below wr.heap.size wr wy → wy.mapTurned wz (w.heap.size + 1 + 1 + 1) → wz.cell? ⟨bV, t, none⟩ = some (.string A) ∧ wz.cell? ⟨bX, t, none⟩ = some (.slice ra rs.length rs.length) ∧ wz.cell? ⟨bY, t, none⟩ = some (.slice rb rs.length rs.length) ∧ wz.cell? ⟨w.heap.size + 1 + 1 + 1 + 1, 1, none⟩ = some (.map (some (w.heap.size + 1 + 1 + 1)))) := fun wy wz hb ht => by
                obtain ⟨x1, x3, x4, x5⟩ := HK.out wy hb
                exact ⟨mt_cell ht x1, mt_cell ht x3, mt_cell ht x4, mt_cell ht x5⟩
              have HR : Hid (IntsIn wr.drew ra (rs.map (·.1)) ∧ IntsIn wr.drew rb (rs.map (·.2)) ∧ gk = us.length - t) := ⟨(hra.later hst.bel).later (Below.refl _ _).drew, (hrb.later hst.bel).later (Below.refl _ _).drew, hgt⟩
              have hti : (t : Int) < us.length := by omega
              clear hst hgt hra hrb c2' c3' hA hrs
              go_wp2_with fail
              go_region_held3 (fun wy => wy.cell? ⟨bV, t, none⟩ = some (.string A) ∧ wy.cell? ⟨bX, t, none⟩ = some (.slice ra rs.length rs.length) ∧ wy.cell? ⟨bY, t, none⟩ = some (.slice rb rs.length rs.length) ∧ wy.cell? ⟨w.heap.size + 1 + 1 + 1 + 1, 1, none⟩ = some (.map (some (w.heap.size + 1 + 1 + 1))))
                (first | (exact HK7.out _ _ ((Below.refl _ _).drew.trans hb6) hturn7) | (exact HK.out _ ((Below.refl _ _).drew.trans hb6)) | (go_keep; done))
                (first
                  | (go_at_call 31; refine (zzRefs_calls _ ra rb rs.length rs.length rs HR.out.1 HR.out.2.1 (by omega)).mono ?_; rintro e w6 ⟨rfl, hsz6, hcp6, hb6⟩; obtain ⟨w7, hput, hst7, hturn7⟩ := HP.out w6 wr.heap.size ((Below.refl _ _).drew.trans hb6) hcp6; simp only [kvT] at hput))
              have HZ : Hid (ZSt w w7 ws ls.length (t + 1) ls us) := hst7
              clear hst7 hturn7 hput hcp6 hsz6 hb6
              go_wp2_with fail
              go_roundg (us.length - (t + 1))
              case measure => have := HR.out.2.2; omega
              case rel => exact ⟨t + 1, by omega, by go_num, rfl, HZ.out⟩
            · have hst' : ZSt w wr ws ls.length us.length ls us := by
                have e : t = us.length := by omega
                rw [e] at hst
                exact hst
              have cf0 : wr.cell? ⟨w.heap.size + 1 + 1 + 1 + 1, 0, none⟩ = some (.map (some (w.heap.size + 1 + 1))) := cell_of_block hst.fx rfl
              have cf1 : wr.cell? ⟨w.heap.size + 1 + 1 + 1 + 1, 1, none⟩ = some (.map (some (w.heap.size + 1 + 1 + 1))) := cell_of_block hst.fx rfl
              obtain ⟨DL, mL, hLs⟩ := hst'.l
              obtain ⟨DU, mU, hUs⟩ := hst'.u
              have HNI : Hid (NIn wr (w.heap.size + 1) w.heap.size (w.heap.size + 1 + 1) (w.heap.size + 1 + 1 + 1) ls.length us.length (.pointer none) (.map none) ws DL DU mL mU (lkL ls ls.length) (lkU us us.length)) :=
                nin_of H0.out.2 hst' hLs hUs
              have HB3 : Hid (Below w.heap.size w wr) := hst.bel
              clear hst hst' hgt hLs hUs
              obtain ⟨wo, hwo⟩ : ∃ wo, wo = wr := ⟨_, rfl⟩
              subst hwo
              go_wp2_with fail
              refine (number_calls wo (w.heap.size + 1) w.heap.size (w.heap.size + 1 + 1) (w.heap.size + 1 + 1 + 1) ls.length us.length (.pointer none) (.map none) ws now DL DU mL mU (lkL ls ls.length) (lkU us us.length) HNI.out).mono ?_
              rintro e w4 ⟨b1, b2, rfl, R, rv, r1, r2, r3, r4, r5, r6, r7, r8⟩
              obtain ⟨ra, rc, rfl, hrf⟩ := r7.refs
              have cE2 : w4.cell? ⟨w.heap.size + 1, 2, none⟩ = some (.slice ra R.length rc) := cell_of_block r6 rfl
              have HQ : Hid (R.Nodup ∧ (∀ x, x ∈ R ↔ ((∃ l ∈ ls, x ∈ l.2.2) ∨ (∃ l ∈ us, x ∈ l.2)) ∧ okW ws now x = true) ∧ BsIn w4 112 b1 R (lkL ls ls.length) ∧ BsIn w4 9 b2 R (lkU us us.length) ∧ RefsIn w4 ra R ∧ Below w.heap.size w w4) := by
                refine ⟨r1, fun x => ?_, r4, r5, hrf, ?_⟩
                · rw [r2 x, ex_lkL, ex_lkU]
                · refine HB3.out.trans ⟨r8.os, r8.tape, r8.output, r8.size, fun k hk => r8.block k (Nat.lt_of_lt_of_le hk HB3.out.size) (by omega)⟩
              clear r1 r2 r4 r5 r6 r7 r8 hrf HNI
              obtain ⟨i3, hi3, hz30, hz31, hz32⟩ := info_parts info3
              go_wp2_with fail
              go_loopg [20, 21, 126] R.length (fun j v1 v2 i wi => ∃ t : Nat, t ≤ R.length ∧ i = .int .i64 t ∧ j = R.length - t ∧ OwnI wi w4.heap.size v1 ((R.take t).map (·.1)) ∧ OwnI wi w4.heap.size v2 ((R.take t).map (·.2)) ∧ (∀ k, v1.ownBlock = some k → v2.ownBlock ≠ some k) ∧ Below w4.heap.size w4 wi)
              case atStart => exact ⟨0, Nat.zero_le _, rfl, rfl, OwnI.nil _ _, OwnI.nil _ _, (fun k hk => by cases hk), Below.refl _ _⟩
              case round =>
                obtain ⟨t, ht, rfl, hgt, ho1, ho2, hne, hbel⟩ := hrel
                by_cases htl : t < R.length
                · obtain ⟨x, hx⟩ : ∃ x, x = R[t] := ⟨_, rfl⟩
                  obtain ⟨a1, n1, rfl, -⟩ := ho1.ints
                  obtain ⟨a2, n2, rfl, -⟩ := ho2.ints
                  have el1 : ((R.take t).map (·.1)).length = t := by simp; omega
                  have el2 : ((R.take t).map (·.2)).length = t := by simp; omega
                  rw [el1] at ho1 hne ⊢
                  rw [el2] at ho2 hne ⊢
                  obtain ⟨Z1, hZ1⟩ : ∃ Z1, Z1 = (R.take t).map (·.1) := ⟨_, rfl⟩
                  obtain ⟨Z2, hZ2⟩ : ∃ Z2, Z2 = (R.take t).map (·.2) := ⟨_, rfl⟩
                  rw [← hZ1] at ho1 el1
                  rw [← hZ2] at ho2 el2
                  rcases HQ.out.2.2.2.2.1 with h0 | ⟨rb, ro, rfl, hcr⟩
                  · rw [h0] at htl; simp at htl
                  · obtain ⟨p0, p1⟩ := hcr t htl
                    have x0 := cell_later hbel p0
                    have x1 := cell_later hbel p1
                    rw [← hx] at x0 x1
                    have lr := World.block_lt_of_cell? wr ⟨rb, ro + t * 2, none⟩ x0
                    simp only at lr
                    have hti : (t : Int) < R.length := by omega
                    have hs4 : w4.heap.size ≤ wr.heap.size := hbel.size
                    have hL1 : Below wr.heap.size wr ((wr.alloc (.cells #[.int .i64 x.1, .int .i64 x.2] 118)).alloc (.cells #[.int .i64 x.1] 3)) := ((Below.refl _ _).alloc (Nat.le_refl _) _).alloc (by simp) _
                    have hO1 : OwnI ((wr.alloc (.cells #[.int .i64 x.1, .int .i64 x.2] 118)).alloc (.cells #[.int .i64 x.1] 3)) w4.heap.size (.slice a1 t n1) Z1 := ho1.later hL1
                    have hO2 : OwnI ((wr.alloc (.cells #[.int .i64 x.1, .int .i64 x.2] 118)).alloc (.cells #[.int .i64 x.1] 3)) w4.heap.size (.slice a2 t n2) Z2 := ho2.later hL1
                    have HO1 : Hid (((wr.alloc (.cells #[.int .i64 x.1, .int .i64 x.2] 118)).alloc (.cells #[.int .i64 x.1] 3)).ownsRow w4.heap.size 3 1 (.slice a1 t n1) t (Z1.map (Value.int .i64))) := by
                      have h1 := hO1
                      unfold OwnI at h1
                      rw [el1] at h1
                      exact h1
                    have HC5 : Hid (∀ w5, ((wr.alloc (.cells #[.int .i64 x.1, .int .i64 x.2] 118)).alloc (.cells #[.int .i64 x.1] 3)).grownBy w5 (Value.slice a1 t n1).ownBlock → w5.cell? ⟨wr.heap.size, 1, none⟩ = some (.int .i64 x.2) ∧ (w5.alloc (.cells #[.int .i64 x.2] 3)).ownsRow w4.heap.size 3 1 (.slice a2 t n2) t (Z2.map (Value.int .i64))) := by
                      intro w5 hg
                      refine ⟨cell_grown hg (by go_simp) (fun e => ?_), ?_⟩
                      · have := (ho1.block e).2
                        omega
                      · have h1 := hO2.other hg (fun k hk e => hne k e hk)
                        have h2 := h1.later ((Below.refl _ _).alloc (Nat.le_refl _) (.cells #[.int .i64 x.2] 3))
                        unfold OwnI at h2
                        rw [el2] at h2
                        exact h2
                    have HG : Hid (OwnI wr w4.heap.size (.slice a1 t n1) Z1 ∧ OwnI wr w4.heap.size (.slice a2 t n2) Z2 ∧ (∀ k, (Value.slice a1 t n1).ownBlock = some k → (Value.slice a2 t n2).ownBlock ≠ some k) ∧ Below w4.heap.size w4 wr ∧ gk = R.length - t ∧ Z1 = (R.take t).map (·.1) ∧ Z2 = (R.take t).map (·.2) ∧ x = R[t] ∧ OwnI ((wr.alloc (.cells #[.int .i64 x.1, .int .i64 x.2] 118)).alloc (.cells #[.int .i64 x.1] 3)) w4.heap.size (.slice a2 t n2) Z2) := ⟨ho1, ho2, hne, hbel, hgt, hZ1, hZ2, hx, hO2⟩
                    clear ho1 ho2 hne hbel hgt hZ1 hZ2 hx hO1 hO2 hL1 p0 p1 hcr
                    go_wp2_with (first
                      | (at_builtin; refine wpList_append_lies _ rfl _ _ 87 rfl w4.heap.size 3 i3 (.int .i64 0) 1 8 Try.underlying87 hi3 hz30 hz31 hz32 rfl (by omega) (.slice a1 t n1) t (Z1.map (Value.int .i64)) rfl HO1.out ⟨wr.heap.size + 1, 0, none⟩ 1 1 [.int .i64 x.1] rfl rfl (by have := one_new (wr.alloc (.cells #[.int .i64 x.1, .int .i64 x.2] 118)) (.int .i64 x.1) 3; simpa using this) (by simp [Value.oneCell']) (by omega) (by unfold maxLen; omega) (by omega) (by simp; omega) (wr.heap.size + 1 + 1) (by simp) ?_; intro g5 cap5 w5 hown5 hgrow5 hat5 hlt5; have cv5 := (HC5.out w5 hgrow5).1; have HO2 : Hid _ := (HC5.out w5 hgrow5).2)
                      | (at_builtin; refine wpList_append_lies _ rfl _ _ 87 rfl w4.heap.size 3 i3 (.int .i64 0) 1 8 Try.underlying87 hi3 hz30 hz31 hz32 rfl (by omega) (.slice a2 t n2) t (Z2.map (Value.int .i64)) rfl HO2.out ⟨w5.heap.size, 0, none⟩ 1 1 [.int .i64 x.2] rfl rfl (one_new _ _ _) (by simp [Value.oneCell']) (by omega) (by unfold maxLen; omega) (by omega) (by have := hgrow5.size; simp at this; simp; omega) (w5.heap.size + 1) (by simp) ?_; intro g6 cap6 w6 hown6 hgrow6 hat6 hlt6))
                    go_roundg (R.length - (t + 1))
                    case measure => have := HG.out.2.2.2.2.1; omega
                    case rel =>
                      obtain ⟨a1', a2', a3', a4', _, a6', a7', a8', a9'⟩ := HG.out
                      have hb5 : Below w4.heap.size w4 w5 := (a4'.trans (((Below.refl _ _).alloc hs4 _).alloc (by simp; omega) _)).grown hgrow5 (by simp; omega) (fun k hk => (a1'.block hk).1)
                      have g5ge : ∀ k, (Value.slice a2 t n2).ownBlock = some k → k ≠ g5 := by
                        intro k hk e
                        rcases hat5 with h1 | h1
                        · exact a3' g5 h1 (by rw [← e]; exact hk)
                        · have := (a2'.block hk).2
                          omega
                      refine ⟨t + 1, by omega, by go_num, rfl, ?_, ?_, fun k hk => ?_, ?_⟩
                      · have e : (R.take (t + 1)).map (·.1) = Z1 ++ [x.1] := by rw [List.take_succ_eq_append_getElem htl, List.map_append, a6', a8']; rfl
                        rw [e]
                        have h5 : OwnI w5 w4.heap.size (.slice (some ⟨g5, 0, none⟩) (t + 1) cap5) (Z1 ++ [x.1]) := OwnI.push (by rw [el1]; exact hown5)
                        refine (h5.later ((Below.refl _ _).alloc (Nat.le_refl _) (.cells #[.int .i64 x.2] 3))).other hgrow6 (fun k hk e => ?_)
                        cases hk
                        exact g5ge _ e rfl
                      · have e : (R.take (t + 1)).map (·.2) = Z2 ++ [x.2] := by rw [List.take_succ_eq_append_getElem htl, List.map_append, a7', a8']; rfl
                        rw [e]
                        exact OwnI.push (by rw [el2]; exact hown6)
                      · cases hk
                        intro e
                        cases e
                        rcases hat6 with h1 | h1
                        · exact g5ge _ h1 rfl
                        · omega
                      · have h6 := a9'.other hgrow5 (fun k hk e => a3' k e hk)
                        exact (hb5.trans ((Below.refl _ _).alloc hb5.size _)).grown hgrow6 (by have := hb5.size; simp; omega) (fun k hk => (h6.block hk).1)
                · have et : t = R.length := by omega
                  subst et
                  rw [List.take_length] at ho1 ho2
                  obtain ⟨a1, n1, rfl, hn1⟩ := ho1.ints
                  obtain ⟨a2, n2, rfl, hn2⟩ := ho2.ints
                  rw [List.length_map, List.length_map]
                  obtain ⟨wk, hwk⟩ : ∃ wk, wk = wr := ⟨_, rfl⟩
                  subst hwk
                  have HT : Hid (IntsIn wk a1 (R.map (·.1)) ∧ IntsIn wk a2 (R.map (·.2)) ∧ BsIn wk 112 b1 R (lkL ls ls.length) ∧ BsIn wk 9 b2 R (lkU us us.length) ∧ Below w.heap.size w wk) := ⟨hn1, hn2, HQ.out.2.2.1.later hbel, HQ.out.2.2.2.1.later hbel, HQ.out.2.2.2.2.2.trans (hbel.mono HQ.out.2.2.2.2.2.size)⟩
                  clear ho1 ho2 hn1 hn2 hne hbel hgt
                  obtain ⟨i7, hi7, hz70, hz71, hz72⟩ := info_parts info70
                  go_wp2_with (at_make; refine wpList_make_cap _ rfl _ _ 56 rfl 70 i7 (.slice none 0 0) 1 Try.underlying56 hi7 hz70 hz71 .i64 .i64 _ _ ls.length ls.length rfl rfl (by simp) (by simp) (Nat.le_refl _) (by rw [hz72]; omega) (by unfold maxLen; omega) ?_)
                  go_loopg [146] ls.length (fun j i wi => ∃ t : Nat, t ≤ ls.length ∧ i = .int .i64 t ∧ j = ls.length - t ∧ CpB wi wk wk.heap.size ls.length R (fun i => (ls.getD i (⟨#[]⟩, ⟨#[]⟩, [])).2.2) t ∧ Below wk.heap.size wk wi)
                  case atStart => exact ⟨0, Nat.zero_le _, rfl, rfl, ⟨_, new_block0 _ _ _ rfl, by simp [zrow_size], fun i _ h0 => absurd h0 (by omega)⟩, (Below.refl _ _).alloc (Nat.le_refl _) _⟩
                  case round =>
                    obtain ⟨t, ht, rfl, hgt, hcp, hbel⟩ := hrel
                    by_cases htl : t < ls.length
                    · have hbw : Below w.heap.size w wr := HT.out.2.2.2.2.trans (hbel.mono HT.out.2.2.2.2.size)
                      have c0 := cell_later hbw (H0.out.1.t t htl)
                      have c1 := cell_later hbw (H0.out.1.i t htl)
                      have lT := World.block_lt_of_cell? w ⟨bT, t, none⟩ (H0.out.1.t t htl)
                      have lI := World.block_lt_of_cell? w ⟨bI, t, none⟩ (H0.out.1.i t htl)
                      simp only at lT lI
                      obtain ⟨v, hv, hlk⟩ := HT.out.2.2.1.at law112 Try.underlying113 (z := .slice none 0 0) (keyS_mk (H0.out.2.l1 t htl).1) (mem_lkL.2 ⟨t, htl, htl, rfl⟩) (fun _ => rfl)
                      obtain ⟨cb, ub, rfl, hv3, hv4⟩ := hv
                      have hv : BitOf wk R (ls[t]).2.2 (.slice (some ⟨cb, 0, none⟩) ((R.length + 63) / 64) ((R.length + 63) / 64)) := ⟨cb, ub, rfl, hv3, hv4⟩
                      clear hv3 hv4
                      have hlook := hlk wr.drew (hbel.trans (Below.refl _ _).drew)
                      simp only [kvS] at hlook
                      obtain ⟨A, hA⟩ : ∃ A, A = (ls[t]).1 := ⟨_, rfl⟩
                      obtain ⟨B, hB⟩ : ∃ B, B = (ls[t]).2.1 := ⟨_, rfl⟩
                      rw [← hA] at c0 hlook
                      rw [← hB] at c1 hlook
                      have eg : (ls.getD t (⟨#[]⟩, ⟨#[]⟩, [])).2.2 = (ls[t]).2.2 := by simp [List.getD, htl]
                      have HC : Hid (CpB wr wk wk.heap.size ls.length R (fun i => (ls.getD i (⟨#[]⟩, ⟨#[]⟩, [])).2.2) t ∧ Below wk.heap.size wk wr ∧ gk = ls.length - t ∧ BitOf wk R ((fun i => (ls.getD i (⟨#[]⟩, ⟨#[]⟩, [])).2.2) t) (.slice (some ⟨cb, 0, none⟩) ((R.length + 63) / 64) ((R.length + 63) / 64))) := ⟨hcp, hbel, hgt, by show BitOf wk R (ls.getD t (⟨#[]⟩, ⟨#[]⟩, [])).2.2 _; rw [eg]; exact hv⟩
                      obtain ⟨c, h1, h2, h3⟩ := hcp
                      obtain ⟨z0, hz0⟩ := some_at (c := c) (j := t) (by omega)
                      have q0 := cell_of_block h1 hz0
                      have f0 : wr.frozen? ⟨wk.heap.size, t, none⟩ = false := free_of_block h1
                      have hti : (t : Int) < ls.length := by omega
                      have hwk : w.heap.size ≤ wk.heap.size := HT.out.2.2.2.2.size
                      clear h1 h2 h3 hz0 hv hlk hbw hbel hgt hA hB eg
                      go_wp2_with fail
                      go_region_held3 (fun wy => wy.cell? ⟨bT, t, none⟩ = some (.string A) ∧ wy.cell? ⟨bI, t, none⟩ = some (.string B)) (first | (go_keep; done) | (go_simp; done)) (fail)
                      go_wp2_with fail
                      go_roundg (ls.length - (t + 1))
                      case measure => have := HC.out.2.2.1; omega
                      case rel =>
                        obtain ⟨d1, d2, _, d4⟩ := HC.out
                        exact ⟨t + 1, by omega, by go_num, rfl, (d1.step htl d4), (d2.setCell (Nat.le_refl _) _).drew⟩
                    · have et : t = ls.length := by omega
                      subst et
                      obtain ⟨wj, hwj⟩ : ∃ wj, wj = wr := ⟨_, rfl⟩
                      subst hwj
                      have HC : Hid (CpB wj wk wk.heap.size ls.length R (fun i => (ls.getD i (⟨#[]⟩, ⟨#[]⟩, [])).2.2) ls.length ∧ Below wk.heap.size wk wj) := ⟨hcp, hbel⟩
                      have hs5 : wk.heap.size ≤ wj.heap.size := hbel.size
                      clear hcp hbel hgt
                      go_wp2_with (at_make; refine wpList_make_cap _ rfl _ _ 56 rfl 70 i7 (.slice none 0 0) 1 Try.underlying56 hi7 hz70 hz71 .i64 .i64 _ _ us.length us.length rfl rfl (by simp) (by simp) (Nat.le_refl _) (by rw [hz72]; omega) (by unfold maxLen; omega) ?_)
                      go_loopg [169] us.length (fun j i wi => ∃ t : Nat, t ≤ us.length ∧ i = .int .i64 t ∧ j = us.length - t ∧ CpB wi wk wj.heap.size us.length R (fun i => (us.getD i (⟨#[]⟩, [])).2) t ∧ Below wj.heap.size wj wi)
                      case atStart => exact ⟨0, Nat.zero_le _, rfl, rfl, ⟨_, new_block0 _ _ _ rfl, by simp [zrow_size], fun i _ h0 => absurd h0 (by omega)⟩, (Below.refl _ _).alloc (Nat.le_refl _) _⟩
                      case round =>
                        obtain ⟨t, ht, rfl, hgt, hcp, hbel⟩ := hrel
                        have hbk : Below wk.heap.size wk wr := HC.out.2.trans (hbel.mono HC.out.2.size)
                        by_cases htl : t < us.length
                        · have hbw : Below w.heap.size w wr := HT.out.2.2.2.2.trans (hbk.mono HT.out.2.2.2.2.size)
                          have c0 := cell_later hbw (H0.out.1.v t htl)
                          have lT := World.block_lt_of_cell? w ⟨bV, t, none⟩ (H0.out.1.v t htl)
                          simp only at lT
                          obtain ⟨v, hv, hlk⟩ := HT.out.2.2.2.1.at law9 Try.underlying114 (z := .slice none 0 0) (keyT_mk (H0.out.2.u1 t htl).1) (mem_lkU.2 ⟨t, htl, htl, rfl⟩) (fun _ => rfl)
                          obtain ⟨cb, ub, rfl, hv3, hv4⟩ := hv
                          have hv : BitOf wk R (us[t]).2 (.slice (some ⟨cb, 0, none⟩) ((R.length + 63) / 64) ((R.length + 63) / 64)) := ⟨cb, ub, rfl, hv3, hv4⟩
                          clear hv3 hv4
                          have hlook := hlk wr hbk
                          simp only [kvT] at hlook
                          obtain ⟨A, hA⟩ : ∃ A, A = (us[t]).1 := ⟨_, rfl⟩
                          rw [← hA] at c0 hlook
                          have eg : (us.getD t (⟨#[]⟩, [])).2 = (us[t]).2 := by simp [List.getD, htl]
                          have HD : Hid (CpB wr wk wj.heap.size us.length R (fun i => (us.getD i (⟨#[]⟩, [])).2) t ∧ Below wj.heap.size wj wr ∧ gk = us.length - t ∧ BitOf wk R ((fun i => (us.getD i (⟨#[]⟩, [])).2) t) (.slice (some ⟨cb, 0, none⟩) ((R.length + 63) / 64) ((R.length + 63) / 64))) := ⟨hcp, hbel, hgt, by show BitOf wk R (us.getD t (⟨#[]⟩, [])).2 _; rw [eg]; exact hv⟩
                          obtain ⟨c, h1, h2, h3⟩ := hcp
                          obtain ⟨z0, hz0⟩ := some_at (c := c) (j := t) (by omega)
                          have q0 := cell_of_block h1 hz0
                          have f0 : wr.frozen? ⟨wj.heap.size, t, none⟩ = false := free_of_block h1
                          have hti : (t : Int) < us.length := by omega
                          clear h1 h2 h3 hz0 hv hlk hbw hbel hgt hA eg hbk
                          go_wp2_with fail
                          go_roundg (us.length - (t + 1))
                          case measure => have := HD.out.2.2.1; omega
                          case rel =>
                            obtain ⟨d1, d2, _, d4⟩ := HD.out
                            exact ⟨t + 1, by omega, by go_num, rfl, (d1.step htl d4), d2.setCell (Nat.le_refl _) _⟩
                        · have et : t = us.length := by omega
                          subst et
                          have HD : Hid (CpB wr wk wj.heap.size us.length R (fun i => (us.getD i (⟨#[]⟩, [])).2) us.length ∧ Below wj.heap.size wj wr ∧ Below wk.heap.size wk wr) := ⟨hcp, hbel, hbk⟩
                          clear hcp hbel hbk hgt
                          go_wp2_with fail
                          refine bodyPost_ret (v := .tuple #[.slice a1 R.length n1, .slice a2 R.length n2, .slice (some ⟨wk.heap.size, 0, none⟩) ls.length ls.length, .slice (some ⟨wj.heap.size, 0, none⟩) us.length us.length]) (by simp [results, Try.results29, go_sem]) rfl ⟨_, _, _, _, rfl, ?_⟩
                          obtain ⟨t1, t2, t3, t4, t5⟩ := HT.out
                          obtain ⟨⟨cu, d1, d2, d3⟩, d4, d5⟩ := HD.out
                          obtain ⟨⟨cl, e1, e2, e3⟩, e4⟩ := HC.out
                          refine ⟨R, a1, n1, a2, n2, HQ.out.1, HQ.out.2.1, r3, rfl, rfl, t1.later d5, t2.later d5, fun i hi => ?_, fun i hi => ?_, t5.trans (d5.mono t5.size)⟩
                          · obtain ⟨v, x1, x2⟩ := e3 i hi hi
                            have eg : (ls.getD i (⟨#[]⟩, ⟨#[]⟩, [])).2.2 = (ls[i]).2.2 := by simp [List.getD, hi]
                            replace x2 : BitOf wk R (ls.getD i (⟨#[]⟩, ⟨#[]⟩, [])).2.2 v := x2
                            rw [eg] at x2
                            exact ⟨v, cell_later d4 (cell_of_block e1 x1), x2.later d5⟩
                          · obtain ⟨v, x1, x2⟩ := d3 i hi hi
                            have eg : (us.getD i (⟨#[]⟩, [])).2 = (us[i]).2 := by simp [List.getD, hi]
                            replace x2 : BitOf wk R (us.getD i (⟨#[]⟩, [])).2 v := x2
                            rw [eg] at x2
                            exact ⟨v, cell_of_block d1 x1, x2.later d5⟩
end Go.Proofs.Qxb6612720a
