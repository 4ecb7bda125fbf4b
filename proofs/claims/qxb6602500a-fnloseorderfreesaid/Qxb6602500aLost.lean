import Derived.Test.Qxb6602500aLeaf
namespace Go.Proofs.Qxb6602500a
open Go.RowKit

/-- Of what was there in w, w' has turned the blocks of S alone. -/
structure Fr (S : Nat → Prop) (w w' : World) : Prop where
  os : w'.os = w.os
  tape : w'.tape = w.tape
  output : w'.output = w.output
  size : w.heap.size ≤ w'.heap.size
  block : ∀ k, k < w.heap.size → ¬ S k → w'.heap[k]? = w.heap[k]?

theorem Fr.refl (S : Nat → Prop) (w : World) : Fr S w w := ⟨rfl, rfl, rfl, Nat.le_refl _, fun _ _ _ => rfl⟩
theorem Fr.of_below {S : Nat → Prop} {w w' : World} (h : Below w.heap.size w w') : Fr S w w' := ⟨h.os, h.tape, h.output, h.size, fun k hk _ => h.block k hk⟩
/-- a step more: what it turns is in S or new since a. -/
theorem Fr.trans {S T : Nat → Prop} {a b c : World} (h : Fr S a b) (k : Fr T b c) (hT : ∀ i, i < a.heap.size → T i → S i) : Fr S a c :=
  ⟨k.os.trans h.os, k.tape.trans h.tape, k.output.trans h.output, Nat.le_trans h.size k.size, fun i hi hS => (k.block i (Nat.lt_of_lt_of_le hi h.size) (fun ht => hS (hT i hi ht))).trans (h.block i hi hS)⟩
theorem Fr.mono {S T : Nat → Prop} {a b : World} (h : Fr S a b) (hT : ∀ i, S i → T i) : Fr T a b :=
  ⟨h.os, h.tape, h.output, h.size, fun i hi hS => h.block i hi (fun h' => hS (hT i h'))⟩
theorem Fr.below {S : Nat → Prop} {w w' : World} (h : Fr S w w') {B : Nat} (hB : B ≤ w.heap.size) (hS : ∀ i, i < B → ¬ S i) : Below B w w' :=
  ⟨h.os, h.tape, h.output, h.size, fun i hi => h.block i (by omega) (hS i hi)⟩
theorem Fr.setCell {S : Nat → Prop} (w : World) (a : Addr) (v : Value) (h : S a.block) : Fr S w (w.setCell a v) :=
  ⟨rfl, rfl, rfl, by simp, fun i _ hS => Below.heap_setCell w a v i (fun e => hS (e ▸ h))⟩

def ptrTo : Option Nat → Value
  | none => .pointer none
  | some s => .pointer (some ⟨s, 0, none⟩)

/-- THE TABLE OF GIVE-UPS IN MEMORY: block ab holds nb pointers, each nil or to a block of thirty-two places; L: what the places hold. -/
structure Lost (w : World) (ab nb : Nat) (sub : Nat → Option Nat) (L : Nat → Int × Int) : Prop where
  arr : ∃ a : Array Value, w.heap[ab]? = some (.cells a 106 (0, 0)) ∧ a.size = nb ∧ ∀ i, i < nb → a[i]? = some (ptrTo (sub i))
  blk : ∀ i s, i < nb → sub i = some s → ∃ c : Array Value, w.heap[s]? = some (.cells c 114 (0, 0)) ∧ c.size = 64 ∧ ∀ j, j < 32 → c[j * 2]? = some (.int .u64 (L (32 * i + j)).1) ∧ c[j * 2 + 1]? = some (.int .u64 (L (32 * i + j)).2)
  nul : ∀ i, i < nb → sub i = none → ∀ j, j < 32 → L (32 * i + j) = (0, 0)
  inj : ∀ i j s, i < nb → j < nb → sub i = some s → sub j = some s → i = j

/-- The blocks that the table takes up. -/
def lostOwn (ab nb : Nat) (sub : Nat → Option Nat) (b : Nat) : Prop := b = ab ∨ ∃ i, i < nb ∧ sub i = some b

theorem cell_of_block {w : World} {b o : Nat} {c : Array Value} {t : TypeId} {v : Value} (h : w.heap[b]? = some (.cells c t (0, 0))) (hc : c[o]? = some v) : w.cell? ⟨b, o, none⟩ = some v := by
  simp [World.cell?, h, hc]
theorem free_of_block {w : World} {b o : Nat} {c : Array Value} {t : TypeId} (h : w.heap[b]? = some (.cells c t (0, 0))) : w.frozen? ⟨b, o, none⟩ = false := by
  simp [World.frozen?, h]
theorem lt_of_heap {w : World} {b : Nat} {o : Obj} (h : w.heap[b]? = some o) : b < w.heap.size := (Array.getElem?_eq_some_iff.1 h).1
theorem block_set {w : World} {g i : Nat} {cs : Array Value} {t : TypeId} {fr : Nat × Nat} (h : w.heap[g]? = some (.cells cs t fr)) (v : Value) : (w.setCell ⟨g, i, none⟩ v).heap[g]? = some (.cells (cs.setIfInBounds i v) t fr) := by
  simp [World.setCell, Array.getElem?_modify, h]

theorem Lost.lt {w ab nb sub L} (h : Lost w ab nb sub L) {b : Nat} (hb : lostOwn ab nb sub b) : b < w.heap.size := by
  rcases hb with rfl | ⟨i, hi, hs⟩
  · obtain ⟨a, h1, _⟩ := h.arr; exact lt_of_heap h1
  · obtain ⟨c, h1, _⟩ := h.blk i b hi hs; exact lt_of_heap h1

theorem Lost.kept {w w' ab nb sub L} (h : Lost w ab nb sub L) (hk : ∀ b, lostOwn ab nb sub b → w'.heap[b]? = w.heap[b]?) : Lost w' ab nb sub L := by
  refine ⟨?_, fun i s hi hs => ?_, h.nul, h.inj⟩
  · obtain ⟨a, h1, h2⟩ := h.arr
    exact ⟨a, (hk ab (Or.inl rfl)).trans h1, h2⟩
  · obtain ⟨c, h1, h2⟩ := h.blk i s hi hs
    exact ⟨c, (hk s (Or.inr ⟨i, hi, hs⟩)).trans h1, h2⟩

/-- 'at'. -/
theorem Lost.at_calls {w ab nb sub L} (h : Lost w ab nb sub L) (cap p : Nat) (hp : p < 32 * nb) (hnb : nb ≤ 1000000) :
    Calls Try.prog 48 #[.agg #[.slice (some ⟨ab, 0, none⟩) nb cap], .int .i64 p] w fun e w' => e = .returned (.agg #[.int .u64 (L p).1, .int .u64 (L p).2]) ∧ Below w.heap.size w w' := by
  have hi : p / 32 < nb := by omega
  have hj : p % 32 < 32 := by omega
  have e : 32 * (p / 32) + p % 32 = p := by omega
  obtain ⟨a, h1, h2, h3⟩ := h.arr
  have hc := cell_of_block h1 (h3 _ hi)
  cases hs : sub (p / 32) with
  | none =>
    rw [hs] at hc
    have h0 := h.nul _ hi hs _ hj
    rw [e] at h0
    rw [h0]
    exact at_nil ab nb cap p w hp hnb hc
  | some s =>
    rw [hs] at hc
    obtain ⟨c, h4, h5, h6⟩ := h.blk _ s hi hs
    obtain ⟨h7, h8⟩ := h6 _ hj
    rw [e] at h7 h8
    exact at_some ab nb cap p s _ _ w hp hnb hc (cell_of_block h4 h7) (cell_of_block h4 h8)

theorem get_set2 {c : Array Value} {f l : Value} {j j' : Nat} (hj : j < 32) (hj' : j' < 32) (hs : c.size = 64) : (((c.setIfInBounds (j * 2) f).setIfInBounds (j * 2 + 1) l)[j' * 2]? = if j' = j then some f else c[j' * 2]?) ∧ (((c.setIfInBounds (j * 2) f).setIfInBounds (j * 2 + 1) l)[j' * 2 + 1]? = if j' = j then some l else c[j' * 2 + 1]?) := by
  by_cases h : j' = j
  · subst h
    simp only [if_true]
    refine ⟨?_, ?_⟩
    · rw [Array.getElem?_setIfInBounds_ne (by omega), Array.getElem?_setIfInBounds_self_of_lt (by omega)]
    · rw [Array.getElem?_setIfInBounds_self_of_lt (by simp; omega)]
  · simp only [if_neg h]
    refine ⟨?_, ?_⟩
    · rw [Array.getElem?_setIfInBounds_ne (by omega), Array.getElem?_setIfInBounds_ne (by omega)]
    · rw [Array.getElem?_setIfInBounds_ne (by omega), Array.getElem?_setIfInBounds_ne (by omega)]

theorem upd_at {L : Nat → Int × Int} {p i j : Nat} {g : Int × Int} (hj : j < 32) : upd L p g (32 * i + j) = if i = p / 32 ∧ j = p % 32 then g else L (32 * i + j) := by
  unfold upd
  by_cases h : 32 * i + j = p
  · rw [if_pos h, if_pos (by omega)]
  · rw [if_neg h, if_neg (by omega)]

/-- 'set'. -/
theorem Lost.set_calls {w ab nb sub L} (h : Lost w ab nb sub L) (cap p : Nat) (f l : Int) (hp : p < 32 * nb) (hnb : nb ≤ 1000000) :
    Calls Try.prog 52 #[.agg #[.slice (some ⟨ab, 0, none⟩) nb cap], .int .i64 p, .agg #[.int .u64 f, .int .u64 l]] w fun e w' => e = .returned (.tuple #[]) ∧
      ∃ sub', Lost w' ab nb sub' (upd L p (f, l)) ∧ (∀ i s, i < nb → sub' i = some s → sub i = some s ∨ w.heap.size ≤ s) ∧ Fr (lostOwn ab nb sub) w w' := by
  have hi : p / 32 < nb := by omega
  have hj : p % 32 < 32 := by omega
  have e : 32 * (p / 32) + p % 32 = p := by omega
  obtain ⟨a, h1, h2, h3⟩ := h.arr
  have hc := cell_of_block h1 (h3 _ hi)
  cases hs : sub (p / 32) with
  | none =>
    rw [hs] at hc
    refine (set_nil ab nb cap p f l w hp hnb hc (free_of_block h1)).mono ?_
    rintro e' w' ⟨rfl, s, hns, hblk, hb⟩
    have hsz : ∀ k, k < w.heap.size → w'.heap[k]? = (w.setCell ⟨ab, p / 32, none⟩ (.pointer (some ⟨s, 0, none⟩))).heap[k]? := fun k hk => hb.block k hk
    refine ⟨rfl, fun i => if i = p / 32 then some s else sub i, ⟨?_, ?_, ?_, ?_⟩, ?_, ?_⟩
    · refine ⟨a.setIfInBounds (p / 32) (.pointer (some ⟨s, 0, none⟩)), ?_, by simp [h2], fun i hi' => ?_⟩
      · rw [hsz ab (lt_of_heap h1)]
        exact block_set h1 _
      · by_cases e2 : i = p / 32
        · subst e2
          simp only [if_true, ptrTo]
          rw [Array.getElem?_setIfInBounds_self_of_lt (by omega)]
        · simp only [if_neg e2]
          rw [Array.getElem?_setIfInBounds_ne (by omega)]
          exact h3 i hi'
    · intro i s' hi' hs'
      by_cases e2 : i = p / 32
      · subst e2
        simp only [if_true, Option.some.injEq] at hs'
        subst hs'
        refine ⟨_, hblk, by simp [zero64], fun j hj' => ?_⟩
        have g := get_set2 (c := zero64) (f := .int .u64 f) (l := .int .u64 l) hj hj' (by simp [zero64])
        rw [g.1, g.2, upd_at hj']
        by_cases e3 : j = p % 32
        · simp [e3]
        · rw [if_neg e3, if_neg e3, if_neg (by omega), h.nul _ hi hs j hj']
          exact ⟨zero64_at (by omega), zero64_at (by omega)⟩
      · simp only [if_neg e2] at hs'
        obtain ⟨c, h4, h5, h6⟩ := h.blk i s' hi' hs'
        refine ⟨c, ?_, h5, fun j hj' => ?_⟩
        · rw [hsz s' (lt_of_heap h4), Below.heap_setCell _ _ _ _ (fun e4 => ?_), h4]
          simp only at e4
          rw [e4, h1] at h4
          simp at h4
        · rw [upd_at hj', if_neg (by omega)]
          exact h6 j hj'
    · intro i hi' hs' j hj'
      by_cases e2 : i = p / 32
      · simp [e2] at hs'
      · simp only [if_neg e2] at hs'
        rw [upd_at hj', if_neg (by omega)]
        exact h.nul i hi' hs' j hj'
    · intro i j s' hi' hj' hs1 hs2
      have hlt : ∀ i s0, i < nb → sub i = some s0 → s0 < w.heap.size := fun i s0 h5 h6 => h.lt (Or.inr ⟨i, h5, h6⟩)
      by_cases e2 : i = p / 32 <;> by_cases e3 : j = p / 32
      · omega
      · simp only [if_pos e2, if_neg e3, Option.some.injEq] at hs1 hs2
        have := hlt j s' hj' hs2
        omega
      · simp only [if_neg e2, if_pos e3, Option.some.injEq] at hs1 hs2
        have := hlt i s' hi' hs1
        omega
      · simp only [if_neg e2, if_neg e3] at hs1 hs2
        exact h.inj i j s' hi' hj' hs1 hs2
    · intro i s' hi' hs'
      by_cases e2 : i = p / 32
      · simp only [if_pos e2, Option.some.injEq] at hs'
        exact Or.inr (by omega)
      · simp only [if_neg e2] at hs'
        exact Or.inl hs'
    · exact (Fr.setCell (S := lostOwn ab nb sub) w ⟨ab, p / 32, none⟩ (.pointer (some ⟨s, 0, none⟩)) (Or.inl rfl)).trans (T := fun _ => False) (Fr.of_below (by simpa using hb)) (fun _ _ h => h.elim)
  | some s =>
    rw [hs] at hc
    obtain ⟨c, h4, h5, h6⟩ := h.blk _ s hi hs
    obtain ⟨h7, h8⟩ := h6 _ hj
    refine (set_some ab nb cap p s f l _ _ w hp hnb hc (cell_of_block h4 h7) (cell_of_block h4 h8) (free_of_block h4) (free_of_block h4)).mono ?_
    rintro e' w' ⟨rfl, hb⟩
    have hsz : ∀ k, k < w.heap.size → k ≠ s → w'.heap[k]? = w.heap[k]? := fun k hk hne => by
      rw [hb.block k hk, Below.heap_setCell _ _ _ _ hne, Below.heap_setCell _ _ _ _ hne]
    have hblk : w'.heap[s]? = some (.cells ((c.setIfInBounds (p % 32 * 2) (.int .u64 f)).setIfInBounds (p % 32 * 2 + 1) (.int .u64 l)) 114 (0, 0)) := by
      rw [hb.block s (lt_of_heap h4)]
      exact block_set (block_set h4 _) _
    refine ⟨rfl, sub, ⟨?_, ?_, ?_, h.inj⟩, fun i s' _ h' => Or.inl h', ?_⟩
    · refine ⟨a, ?_, h2, h3⟩
      rw [hsz ab (lt_of_heap h1) (fun e4 => ?_), h1]
      rw [e4, h4] at h1
      simp at h1
    · intro i s' hi' hs'
      by_cases e2 : i = p / 32
      · subst e2
        rw [hs] at hs'
        cases hs'
        refine ⟨_, hblk, by simp [h5], fun j hj' => ?_⟩
        have g := get_set2 (c := c) (f := .int .u64 f) (l := .int .u64 l) hj hj' h5
        rw [g.1, g.2, upd_at hj']
        by_cases e3 : j = p % 32
        · simp [e3]
        · rw [if_neg e3, if_neg e3, if_neg (by omega)]
          exact h6 j hj'
      · obtain ⟨c', h4', h5', h6'⟩ := h.blk i s' hi' hs'
        refine ⟨c', ?_, h5', fun j hj' => ?_⟩
        · rw [hsz s' (lt_of_heap h4') (fun e4 => e2 (h.inj i _ s' hi' hi hs' (e4 ▸ hs))), h4']
        · rw [upd_at hj', if_neg (by omega)]
          exact h6' j hj'
    · intro i hi' hs' j hj'
      have e2 : i ≠ p / 32 := fun e2 => by rw [e2, hs] at hs'; cases hs'
      rw [upd_at hj', if_neg (by omega)]
      exact h.nul i hi' hs' j hj'
    · exact ((Fr.setCell (S := lostOwn ab nb sub) w ⟨s, p % 32 * 2, none⟩ (.int .u64 f) (Or.inr ⟨_, hi, hs⟩)).trans (T := lostOwn ab nb sub) (Fr.setCell _ ⟨s, p % 32 * 2 + 1, none⟩ (.int .u64 l) (Or.inr ⟨_, hi, hs⟩)) (fun _ _ h => h)).trans (T := fun _ => False) (Fr.of_below (by simpa using hb)) (fun _ _ h => h.elim)

end Go.Proofs.Qxb6602500a
