import Derived.Test.Qxb6612720aZin
namespace Go.Proofs.Qxb6612720a
open Go.RowKit
set_option maxRecDepth 100000

/-- A row of one-cell values under way. -/
def CpV (w : World) (N : Nat) (t : TypeId) (n : Nat) (f : Nat → Value) (k : Nat) : Prop :=
  ∃ c : Array Value, w.heap[N]? = some (.cells c t (0, 0)) ∧ c.size = n ∧ ∀ i, i < n → i < k → c[i]? = some (f i)
theorem CpV.step {w : World} {N : Nat} {t : TypeId} {n : Nat} {f : Nat → Value} {k : Nat} (h : CpV w N t n f k) (hk : k < n) {v : Value} (hv : v = f k) : CpV (w.setCell ⟨N, k, none⟩ v) N t n f (k + 1) := by
  obtain ⟨c, h1, h2, h3⟩ := h
  refine ⟨_, block_set h1 _, by simp [h2], fun i hi hik => ?_⟩
  by_cases e : k = i
  · subst e
    rw [Array.getElem?_setIfInBounds_self_of_lt (by omega), hv]
  · rw [Array.getElem?_setIfInBounds_ne e]
    exact h3 i hi (by omega)
theorem CpV.other {w : World} {N : Nat} {t : TypeId} {n : Nat} {f : Nat → Value} {k : Nat} (h : CpV w N t n f k) {b j : Nat} (hb : N ≠ b) (v : Value) : CpV (w.setCell ⟨b, j, none⟩ v) N t n f k := by
  obtain ⟨c, h1, h2⟩ := h
  exact ⟨c, (Below.heap_setCell _ _ _ _ hb).trans h1, h2⟩
theorem CpV.later {w w' : World} {N : Nat} {t : TypeId} {n : Nat} {f : Nat → Value} {k : Nat} (h : CpV w N t n f k) (hb : Below w.heap.size w w') : CpV w' N t n f k := by
  obtain ⟨c, h1, h2⟩ := h
  exact ⟨c, (hb.block _ (lt_of_heap h1)).trans h1, h2⟩
theorem CpV.free {w : World} {N : Nat} {t : TypeId} {n : Nat} {f : Nat → Value} {k : Nat} (h : CpV w N t n f k) {j : Nat} (hj : j < n) : (∃ v, w.cell? ⟨N, j, none⟩ = some v) ∧ w.frozen? ⟨N, j, none⟩ = false := by
  obtain ⟨c, h1, h2, _⟩ := h
  obtain ⟨v, hv⟩ := some_at (c := c) (j := j) (by omega)
  exact ⟨⟨v, cell_of_block h1 hv⟩, free_of_block h1⟩
theorem CpV.at {w : World} {N : Nat} {t : TypeId} {n : Nat} {f : Nat → Value} {k : Nat} (h : CpV w N t n f k) {j : Nat} (hj : j < n) (hk : j < k) : w.cell? ⟨N, j, none⟩ = some (f j) := by
  obtain ⟨c, h1, _, h3⟩ := h
  exact cell_of_block h1 (h3 j hj hk)
theorem CpV.lt {w : World} {N : Nat} {t : TypeId} {n : Nat} {f : Nat → Value} {k : Nat} (h : CpV w N t n f k) : N < w.heap.size := by
  obtain ⟨c, h1, _⟩ := h
  exact lt_of_heap h1
theorem CpV.new (w : World) (z : Value) (t : TypeId) (n : Nat) (f : Nat → Value) : CpV (w.alloc (.cells (zrow z (n * 1)) t)) w.heap.size t n f 0 :=
  ⟨_, new_block0 _ _ _ rfl, by simp [zrow_size], fun i _ h0 => absurd h0 (by omega)⟩

theorem IntsIn.set {w : World} {M b j : Nat} {zs : List Int} (h : IntsIn w (some ⟨M, 0, none⟩) zs) (hb : M ≠ b) (v : Value) : IntsIn (w.setCell ⟨b, j, none⟩ v) (some ⟨M, 0, none⟩) zs := by
  rcases h with h | ⟨b', off, e, h⟩
  · exact Or.inl h
  · cases e
    refine Or.inr ⟨M, 0, rfl, fun i hi => ?_⟩
    rw [← h i hi]
    simp only [World.cell?, Below.heap_setCell w ⟨b, j, none⟩ v M hb]

/-- A row of rows of ints under way; the rows lie from Bd on. -/
def CpW (w : World) (N n Bd : Nat) (zs : Nat → List Int) (k : Nat) : Prop :=
  ∃ c : Array Value, w.heap[N]? = some (.cells c 87 (0, 0)) ∧ c.size = n ∧ ∀ i, i < n → i < k → ∃ M, Bd ≤ M ∧ c[i]? = some (.slice (some ⟨M, 0, none⟩) (zs i).length (zs i).length) ∧ IntsIn w (some ⟨M, 0, none⟩) (zs i)
theorem CpW.step {w : World} {N n Bd : Nat} {zs : Nat → List Int} {k M : Nat} (h : CpW w N n Bd zs k) (hk : k < n) (hN : N < Bd) (hM : Bd ≤ M) (hi : IntsIn w (some ⟨M, 0, none⟩) (zs k)) {m : Nat} (hm : m = (zs k).length) : CpW (w.setCell ⟨N, k, none⟩ (.slice (some ⟨M, 0, none⟩) m m)) N n Bd zs (k + 1) := by
  obtain ⟨c, h1, h2, h3⟩ := h
  refine ⟨_, block_set h1 _, by simp [h2], fun i hi' hik => ?_⟩
  by_cases e : k = i
  · subst e
    exact ⟨M, hM, by rw [Array.getElem?_setIfInBounds_self_of_lt (by omega), hm], hi.set (by omega) _⟩
  · obtain ⟨M', h4, h5, h6⟩ := h3 i hi' (by omega)
    exact ⟨M', h4, by rw [Array.getElem?_setIfInBounds_ne e]; exact h5, h6.set (by omega) _⟩
theorem CpW.other {w : World} {N n Bd : Nat} {zs : Nat → List Int} {k : Nat} (h : CpW w N n Bd zs k) {b j : Nat} (hb : N ≠ b) (hbB : b < Bd) (v : Value) : CpW (w.setCell ⟨b, j, none⟩ v) N n Bd zs k := by
  obtain ⟨c, h1, h2, h3⟩ := h
  refine ⟨c, (Below.heap_setCell _ _ _ _ hb).trans h1, h2, fun i hi hik => ?_⟩
  obtain ⟨M', h4, h5, h6⟩ := h3 i hi hik
  exact ⟨M', h4, h5, h6.set (by omega) _⟩
theorem CpW.later {w w' : World} {N n Bd : Nat} {zs : Nat → List Int} {k : Nat} (h : CpW w N n Bd zs k) (hb : Below w.heap.size w w') : CpW w' N n Bd zs k := by
  obtain ⟨c, h1, h2, h3⟩ := h
  refine ⟨c, (hb.block _ (lt_of_heap h1)).trans h1, h2, fun i hi hik => ?_⟩
  obtain ⟨M', h4, h5, h6⟩ := h3 i hi hik
  exact ⟨M', h4, h5, h6.later hb⟩
theorem CpW.free {w : World} {N n Bd : Nat} {zs : Nat → List Int} {k : Nat} (h : CpW w N n Bd zs k) {j : Nat} (hj : j < n) : (∃ v, w.cell? ⟨N, j, none⟩ = some v) ∧ w.frozen? ⟨N, j, none⟩ = false := by
  obtain ⟨c, h1, h2, _⟩ := h
  obtain ⟨v, hv⟩ := some_at (c := c) (j := j) (by omega)
  exact ⟨⟨v, cell_of_block h1 hv⟩, free_of_block h1⟩
theorem CpW.at {w : World} {N n Bd : Nat} {zs : Nat → List Int} {k : Nat} (h : CpW w N n Bd zs k) {j : Nat} (hj : j < n) (hk : j < k) : ∃ ra, w.cell? ⟨N, j, none⟩ = some (.slice ra (zs j).length (zs j).length) ∧ IntsIn w ra (zs j) := by
  obtain ⟨c, h1, _, h3⟩ := h
  obtain ⟨M, _, h4, h5⟩ := h3 j hj hk
  exact ⟨_, cell_of_block h1 h4, h5⟩
theorem CpW.new (w : World) (z : Value) (n Bd : Nat) (zs : Nat → List Int) : CpW (w.alloc (.cells (zrow z (n * 1)) 87)) w.heap.size n Bd zs 0 :=
  ⟨_, new_block0 _ _ _ rfl, by simp [zrow_size], fun i _ h0 => absurd h0 (by omega)⟩

/-- Refs under way: block N, of kind 60. -/
def CpQ (w : World) (N : Nat) (rs : List (Int × Int)) (k : Nat) : Prop :=
  ∃ c : Array Value, w.heap[N]? = some (.cells c 60 (0, 0)) ∧ c.size = rs.length * 2 ∧ ∀ i (h : i < rs.length), i < k → c[i * 2]? = some (.int .i64 (rs[i]).1) ∧ c[i * 2 + 1]? = some (.int .i64 (rs[i]).2)
theorem CpQ.step {w : World} {N : Nat} {rs : List (Int × Int)} {k : Nat} (h : CpQ w N rs k) (hk : k < rs.length) : CpQ ((w.setCell ⟨N, k * 2, none⟩ (.int .i64 (rs[k]).1)).setCell ⟨N, k * 2 + 1, none⟩ (.int .i64 (rs[k]).2)) N rs (k + 1) := by
  obtain ⟨c, h1, h2, h3⟩ := h
  refine ⟨_, block_set (block_set h1 _) _, by simp [h2], fun i hi hik => ?_⟩
  by_cases e : i = k
  · subst e
    refine ⟨?_, ?_⟩
    · rw [Array.getElem?_setIfInBounds_ne (by omega), Array.getElem?_setIfInBounds_self_of_lt (by omega)]
    · rw [Array.getElem?_setIfInBounds_self_of_lt (by simp; omega)]
  · refine ⟨?_, ?_⟩
    · rw [Array.getElem?_setIfInBounds_ne (by omega), Array.getElem?_setIfInBounds_ne (by omega)]
      exact (h3 i hi (by omega)).1
    · rw [Array.getElem?_setIfInBounds_ne (by omega), Array.getElem?_setIfInBounds_ne (by omega)]
      exact (h3 i hi (by omega)).2

/-- What 'callNumber' leaves. -/
def COut (w w' : World) (bR bL bU n : Nat) (ws : List (Int × Int)) (now : Int) (ls : List (ByteArray × ByteArray × List (Int × Int))) (us : List (ByteArray × List (Int × Int))) : Prop :=
  ∃ R, n = R.length ∧ R.Nodup ∧ (∀ x, x ∈ R ↔ ((∃ l ∈ ls, x ∈ l.2.2) ∨ (∃ l ∈ us, x ∈ l.2)) ∧ okW ws now x = true) ∧ R.length ≤ 200000 ∧ RefsIn w' (some ⟨bR, 0, none⟩) R ∧
    (∀ i (h : i < ls.length), ∃ v, w'.cell? ⟨bL, i, none⟩ = some v ∧ BitOf w' R (ls[i]).2.2 v) ∧ (∀ i (h : i < us.length), ∃ v, w'.cell? ⟨bU, i, none⟩ = some v ∧ BitOf w' R (us[i]).2 v) ∧ Below w.heap.size w w'

/-- The four rows made of the listed entries. -/
structure C4 (wq wi : World) (ls : List (ByteArray × ByteArray × List (Int × Int))) (t : Nat) : Prop where
  a : CpV wi wq.heap.size 9 ls.length (fun i => .string (ls.getD i (⟨#[]⟩, ⟨#[]⟩, [])).1) t
  b : CpV wi (wq.heap.size + 1) 9 ls.length (fun i => .string (ls.getD i (⟨#[]⟩, ⟨#[]⟩, [])).2.1) t
  c : CpW wi (wq.heap.size + 1 + 1) ls.length (wq.heap.size + 4) (fun i => (ls.getD i (⟨#[]⟩, ⟨#[]⟩, [])).2.2.map (·.1)) t
  d : CpW wi (wq.heap.size + 1 + 1 + 1) ls.length (wq.heap.size + 4) (fun i => (ls.getD i (⟨#[]⟩, ⟨#[]⟩, [])).2.2.map (·.2)) t
  bel : Below wq.heap.size wq wi
  sz : wq.heap.size + 4 ≤ wi.heap.size

theorem C4.start (wq : World) (ls : List (ByteArray × ByteArray × List (Int × Int))) : C4 wq ((((wq.alloc (.cells (zrow (.string ⟨#[]⟩) (ls.length * 1)) 9)).alloc (.cells (zrow (.string ⟨#[]⟩) (ls.length * 1)) 9)).alloc (.cells (zrow (.slice none 0 0) (ls.length * 1)) 87)).alloc (.cells (zrow (.slice none 0 0) (ls.length * 1)) 87)) ls 0 := by
  have n1 := CpV.new (wq.alloc (.cells (zrow (.string ⟨#[]⟩) (ls.length * 1)) 9)) (.string ⟨#[]⟩) 9 ls.length (fun i => .string (ls.getD i (⟨#[]⟩, ⟨#[]⟩, [])).2.1)
  have n2 := CpW.new ((wq.alloc (.cells (zrow (.string ⟨#[]⟩) (ls.length * 1)) 9)).alloc (.cells (zrow (.string ⟨#[]⟩) (ls.length * 1)) 9)) (.slice none 0 0) ls.length (wq.heap.size + 4) (fun i => (ls.getD i (⟨#[]⟩, ⟨#[]⟩, [])).2.2.map (·.1))
  have n3 := CpW.new (((wq.alloc (.cells (zrow (.string ⟨#[]⟩) (ls.length * 1)) 9)).alloc (.cells (zrow (.string ⟨#[]⟩) (ls.length * 1)) 9)).alloc (.cells (zrow (.slice none 0 0) (ls.length * 1)) 87)) (.slice none 0 0) ls.length (wq.heap.size + 4) (fun i => (ls.getD i (⟨#[]⟩, ⟨#[]⟩, [])).2.2.map (·.2))
  have e1 : (wq.alloc (.cells (zrow (.string ⟨#[]⟩) (ls.length * 1)) 9)).heap.size = wq.heap.size + 1 := by simp
  have e2 : ((wq.alloc (.cells (zrow (.string ⟨#[]⟩) (ls.length * 1)) 9)).alloc (.cells (zrow (.string ⟨#[]⟩) (ls.length * 1)) 9)).heap.size = wq.heap.size + 1 + 1 := by simp
  have e3 : (((wq.alloc (.cells (zrow (.string ⟨#[]⟩) (ls.length * 1)) 9)).alloc (.cells (zrow (.string ⟨#[]⟩) (ls.length * 1)) 9)).alloc (.cells (zrow (.slice none 0 0) (ls.length * 1)) 87)).heap.size = wq.heap.size + 1 + 1 + 1 := by simp
  rw [e1] at n1
  rw [e2] at n2
  rw [e3] at n3
  have al : ∀ (W : World) (o : Obj), Below W.heap.size W (W.alloc o) := fun W o => (Below.refl _ _).alloc (Nat.le_refl _) _
  exact ⟨(((CpV.new wq _ _ _ _).later (al _ _)).later (al _ _)).later (al _ _), (n1.later (al _ _)).later (al _ _), n2.later (al _ _), n3, ((((Below.refl _ _).alloc (Nat.le_refl _) _).alloc (by simp) _).alloc (by simp; omega) _).alloc (by simp; omega) _, by simp⟩

theorem C4.step {wq wr w2 w4 : World} {ls : List (ByteArray × ByteArray × List (Int × Int))} {t M1 M2 : Nat} {A B : ByteArray} {rs : List (Int × Int)} (h : C4 wq wr ls t) (ht : t < ls.length) (hA : A = (ls[t]).1) (hB : B = (ls[t]).2.1) (hr : rs = (ls[t]).2.2)
    (hb2 : Below wr.heap.size ((wr.setCell ⟨wq.heap.size, t, none⟩ (.string A)).setCell ⟨wq.heap.size + 1, t, none⟩ (.string B)) w2) (h2 : IntsIn w2 (some ⟨M1, 0, none⟩) (rs.map (·.1))) (hM1 : wr.heap.size ≤ M1)
    (hb4 : Below w2.heap.size (w2.setCell ⟨wq.heap.size + 1 + 1, t, none⟩ (.slice (some ⟨M1, 0, none⟩) rs.length rs.length)) w4) (h4 : IntsIn w4 (some ⟨M2, 0, none⟩) (rs.map (·.2))) (hM2 : w2.heap.size ≤ M2) :
    C4 wq (w4.setCell ⟨wq.heap.size + 1 + 1 + 1, t, none⟩ (.slice (some ⟨M2, 0, none⟩) rs.length rs.length)) ls (t + 1) := by
  obtain ⟨a, b, c, d, bel, sz⟩ := h
  have eg : ls.getD t (⟨#[]⟩, ⟨#[]⟩, []) = ls[t] := by simp [List.getD, ht]
  have s1 : ((wr.setCell ⟨wq.heap.size, t, none⟩ (.string A)).setCell ⟨wq.heap.size + 1, t, none⟩ (.string B)).heap.size = wr.heap.size := by simp [World.setCell]
  have hb2' := hb2
  rw [← s1] at hb2'
  have hs2 : wr.heap.size ≤ w2.heap.size := by have := hb2.size; rw [s1] at this; exact this
  have s3 : (w2.setCell ⟨wq.heap.size + 1 + 1, t, none⟩ (.slice (some ⟨M1, 0, none⟩) rs.length rs.length)).heap.size = w2.heap.size := by simp [World.setCell]
  have hb4' := hb4
  rw [← s3] at hb4'
  have hs4 : w2.heap.size ≤ w4.heap.size := by have := hb4.size; rw [s3] at this; exact this
  refine ⟨?_, ?_, ?_, ?_, ?_, by simp [World.setCell]; omega⟩
  · exact (((((a.step ht (by rw [eg, hA])).other (by omega) _).later hb2').other (by omega) _).later hb4').other (by omega) _
  · exact (((((b.other (b := wq.heap.size) (j := t) (by omega) _).step ht (by rw [eg, hB])).later hb2').other (by omega) _).later hb4').other (by omega) _
  · exact ((((((c.other (by omega) (by omega) _).other (by omega) (by omega) _).later hb2').step ht (by omega) (by omega) (by show IntsIn _ _ ((ls.getD t _).2.2.map _); rw [eg, ← hr]; exact h2) (by show _ = ((ls.getD t _).2.2.map _).length; rw [eg, ← hr]; simp))).later hb4').other (by omega) (by omega) _
  · exact (((((d.other (by omega) (by omega) _).other (by omega) (by omega) _).later hb2').other (by omega) (by omega) _).later hb4').step ht (by omega) (by omega) (by show IntsIn _ _ ((ls.getD t _).2.2.map _); rw [eg, ← hr]; exact h4) (by show _ = ((ls.getD t _).2.2.map _).length; rw [eg, ← hr]; simp)
  · exact ((((((bel.setCell (Nat.le_refl _) _).setCell (by show wq.heap.size ≤ wq.heap.size + 1; omega) _).trans (hb2.mono (by omega))).setCell (by show wq.heap.size ≤ wq.heap.size + 1 + 1; omega) _).trans (hb4.mono (by omega)))).setCell (by show wq.heap.size ≤ wq.heap.size + 1 + 1 + 1; omega) _

/-- The three rows made of the unlisted entries. -/
structure C3 (wq wi : World) (us : List (ByteArray × List (Int × Int))) (t : Nat) : Prop where
  a : CpV wi wq.heap.size 9 us.length (fun i => .string (us.getD i (⟨#[]⟩, [])).1) t
  c : CpW wi (wq.heap.size + 1) us.length (wq.heap.size + 3) (fun i => (us.getD i (⟨#[]⟩, [])).2.map (·.1)) t
  d : CpW wi (wq.heap.size + 1 + 1) us.length (wq.heap.size + 3) (fun i => (us.getD i (⟨#[]⟩, [])).2.map (·.2)) t
  bel : Below wq.heap.size wq wi
  sz : wq.heap.size + 3 ≤ wi.heap.size

theorem C3.start (wq : World) (us : List (ByteArray × List (Int × Int))) : C3 wq (((wq.alloc (.cells (zrow (.string ⟨#[]⟩) (us.length * 1)) 9)).alloc (.cells (zrow (.slice none 0 0) (us.length * 1)) 87)).alloc (.cells (zrow (.slice none 0 0) (us.length * 1)) 87)) us 0 := by
  have n2 := CpW.new (wq.alloc (.cells (zrow (.string ⟨#[]⟩) (us.length * 1)) 9)) (.slice none 0 0) us.length (wq.heap.size + 3) (fun i => (us.getD i (⟨#[]⟩, [])).2.map (·.1))
  have n3 := CpW.new ((wq.alloc (.cells (zrow (.string ⟨#[]⟩) (us.length * 1)) 9)).alloc (.cells (zrow (.slice none 0 0) (us.length * 1)) 87)) (.slice none 0 0) us.length (wq.heap.size + 3) (fun i => (us.getD i (⟨#[]⟩, [])).2.map (·.2))
  have e2 : (wq.alloc (.cells (zrow (.string ⟨#[]⟩) (us.length * 1)) 9)).heap.size = wq.heap.size + 1 := by simp
  have e3 : ((wq.alloc (.cells (zrow (.string ⟨#[]⟩) (us.length * 1)) 9)).alloc (.cells (zrow (.slice none 0 0) (us.length * 1)) 87)).heap.size = wq.heap.size + 1 + 1 := by simp
  rw [e2] at n2
  rw [e3] at n3
  have al : ∀ (W : World) (o : Obj), Below W.heap.size W (W.alloc o) := fun W o => (Below.refl _ _).alloc (Nat.le_refl _) _
  exact ⟨((CpV.new wq _ _ _ _).later (al _ _)).later (al _ _), n2.later (al _ _), n3, (((Below.refl _ _).alloc (Nat.le_refl _) _).alloc (by simp) _).alloc (by simp; omega) _, by simp⟩

theorem C3.step {wq wr w2 w4 : World} {us : List (ByteArray × List (Int × Int))} {t M1 M2 : Nat} {A : ByteArray} {rs : List (Int × Int)} (h : C3 wq wr us t) (ht : t < us.length) (hA : A = (us[t]).1) (hr : rs = (us[t]).2)
    (hb2 : Below wr.heap.size (wr.setCell ⟨wq.heap.size, t, none⟩ (.string A)) w2) (h2 : IntsIn w2 (some ⟨M1, 0, none⟩) (rs.map (·.1))) (hM1 : wr.heap.size ≤ M1)
    (hb4 : Below w2.heap.size (w2.setCell ⟨wq.heap.size + 1, t, none⟩ (.slice (some ⟨M1, 0, none⟩) rs.length rs.length)) w4) (h4 : IntsIn w4 (some ⟨M2, 0, none⟩) (rs.map (·.2))) (hM2 : w2.heap.size ≤ M2) :
    C3 wq (w4.setCell ⟨wq.heap.size + 1 + 1, t, none⟩ (.slice (some ⟨M2, 0, none⟩) rs.length rs.length)) us (t + 1) := by
  obtain ⟨a, c, d, bel, sz⟩ := h
  have eg : us.getD t (⟨#[]⟩, []) = us[t] := by simp [List.getD, ht]
  have s1 : (wr.setCell ⟨wq.heap.size, t, none⟩ (.string A)).heap.size = wr.heap.size := by simp [World.setCell]
  have hb2' := hb2
  rw [← s1] at hb2'
  have hs2 : wr.heap.size ≤ w2.heap.size := by have := hb2.size; rw [s1] at this; exact this
  have s3 : (w2.setCell ⟨wq.heap.size + 1, t, none⟩ (.slice (some ⟨M1, 0, none⟩) rs.length rs.length)).heap.size = w2.heap.size := by simp [World.setCell]
  have hb4' := hb4
  rw [← s3] at hb4'
  have hs4 : w2.heap.size ≤ w4.heap.size := by have := hb4.size; rw [s3] at this; exact this
  refine ⟨?_, ?_, ?_, ?_, by simp [World.setCell]; omega⟩
  · exact ((((a.step ht (by rw [eg, hA])).later hb2').other (by omega) _).later hb4').other (by omega) _
  · exact ((((c.other (by omega) (by omega) _).later hb2').step ht (by omega) (by omega) (by show IntsIn _ _ ((us.getD t _).2.map _); rw [eg, ← hr]; exact h2) (by show _ = ((us.getD t _).2.map _).length; rw [eg, ← hr]; simp)).later hb4').other (by omega) (by omega) _
  · exact ((((d.other (by omega) (by omega) _).later hb2').other (by omega) (by omega) _).later hb4').step ht (by omega) (by omega) (by show IntsIn _ _ ((us.getD t _).2.map _); rw [eg, ← hr]; exact h4) (by show _ = ((us.getD t _).2.map _).length; rw [eg, ← hr]; simp)
  · exact (((((bel.setCell (Nat.le_refl _) _).trans (hb2.mono (by omega))).setCell (by show wq.heap.size ≤ wq.heap.size + 1; omega) _).trans (hb4.mono (by omega)))).setCell (by show wq.heap.size ≤ wq.heap.size + 1 + 1; omega) _

end Go.Proofs.Qxb6612720a
