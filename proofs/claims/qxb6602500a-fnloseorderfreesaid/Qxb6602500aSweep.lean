import Derived.Test.Qxb6602500aLst
namespace Go.Proofs.Qxb6602500a
open Go.RowKit

def GoodK (nb : Nat) (x : Nat × Int) : Prop := x.1 < 32 * nb ∧ wfN x ∧ x.2 ≠ 0
def GoodM (nb : Nat) (m : WMap) : Prop := ∀ e ∈ m, e.1.1 < 32 * nb ∧ ∀ x ∈ e.2, GoodK nb x
/-- How many messages wait. -/
def total (m : WMap) : Nat := (m.map (fun e => e.2.length)).sum

theorem look_filter {m : WMap} (hn : (m.map (·.1)).Nodup) (L : Nat → Int × Int) : look (m.filter (fun e => !cov L e.1)) = strike L (look m) := by
  funext a
  unfold strike
  by_cases h : cov L a = true
  · rw [if_pos h, look_none]
    intro e he e1
    have := (List.mem_filter.1 he).2
    rw [e1, h] at this
    cases this
  · rw [if_neg h]
    have h' : cov L a = false := by simpa using h
    cases hl : look m a with
    | none =>
      rw [look_none] at hl ⊢
      exact fun e he => hl e (List.mem_filter.1 he).1
    | some ks =>
      rw [look_some hn] at hl
      rw [look_some (hn.sublist (List.filter_sublist.map _))]
      exact List.mem_filter.2 ⟨hl, by simp [h']⟩

/-- One key struck. -/
theorem total_strike {m : WMap} (hn : (m.map (·.1)).Nodup) {e : (Nat × Int) × List (Nat × Int)} (he : e ∈ m) : total (m.filter (fun x => x.1 != e.1)) + e.2.length = total m := by
  induction m with
  | nil => simp at he
  | cons a r ih =>
    simp only [List.map_cons, List.nodup_cons] at hn
    rcases List.mem_cons.1 he with rfl | he'
    · have : r.filter (fun x => x.1 != e.1) = r := by
        rw [List.filter_eq_self]
        intro x hx
        simp only [bne_iff_ne, ne_eq]
        intro e1
        exact hn.1 (List.mem_map.2 ⟨x, hx, e1⟩)
      rw [List.filter_cons_of_neg (by simp), this]
      simp [total]; omega
    · have hne : a.1 ≠ e.1 := fun e1 => hn.1 (List.mem_map.2 ⟨e, he', e1.symm⟩)
      rw [List.filter_cons_of_pos (by simp [hne])]
      have := ih hn.2 he'
      simp [total] at this ⊢
      omega

/-- THE SWEEP UNDER WAY: m1, td1: as it began; 'left': which keys are still to come. -/
structure SInv (L : Nat → Int × Int) (m1 : WMap) (td1 : List (Nat × Int)) (left : Lit → Bool) (m2 : WMap) (td2 : List (Nat × Int)) : Prop where
  map_ : m2 = m1.filter (fun e => !cov L e.1 || left (kN e.1))
  old : ∀ y ∈ td1, y ∈ td2
  new : ∀ e ∈ m1, cov L e.1 = true → left (kN e.1) = false → ∀ y ∈ e.2, y ∈ td2
  only : ∀ y ∈ td2, y ∈ td1 ∨ ∃ e ∈ m1, cov L e.1 = true ∧ y ∈ e.2
  count : td2.length + total m2 = td1.length + total m1
  dom : ∀ l, left l = true → ∃ e ∈ m1, l = kN e.1

theorem SInv.start {L m1 td1 left} (h1 : ∀ e ∈ m1, left (kN e.1) = true) (h2 : ∀ l, left l = true → ∃ e ∈ m1, l = kN e.1) : SInv L m1 td1 left m1 td1 :=
  ⟨by rw [List.filter_eq_self.2]; intro e he; simp [h1 e he], fun _ h => h, fun e he _ hl => absurd hl (by rw [h1 e he]; decide), fun y hy => Or.inl hy, rfl, h2⟩

/-- An entry that is not lost stays. -/
theorem SInv.pass {L m1 td1 left m2 td2} (h : SInv L m1 td1 left m2 td2) (hwf : ∀ e ∈ m1, wfN e.1) {e : (Nat × Int) × List (Nat × Int)} (he : e ∈ m1) (hc : cov L e.1 = false) :
    SInv L m1 td1 (fun l => left l && !l.sameKey (kN e.1)) m2 td2 := by
  have key : ∀ a ∈ m1, (kN a.1).sameKey (kN e.1) = true → a.1 = e.1 := fun a ha hs => kN_inj (hwf a ha) (hwf e he) (WideAt.sameKey_eq hs)
  refine ⟨?_, h.old, fun a ha hca hl => ?_, h.only, h.count, fun l hl => h.dom l (by simp at hl; exact hl.1)⟩
  · rw [h.map_]
    refine List.filter_congr (fun a ha => ?_)
    by_cases hs : (kN a.1).sameKey (kN e.1) = true
    · rw [key a ha hs, hc]; simp
    · simp [hs]
  · by_cases hs : (kN a.1).sameKey (kN e.1) = true
    · rw [key a ha hs, hc] at hca; cases hca
    · simp only [hs, Bool.not_false, Bool.and_true] at hl
      exact h.new a ha hca (by simpa using hl)

/-- An entry that is lost is struck, and its waiters are to be given up. -/
theorem SInv.take {L m1 td1 left m2 td2} (h : SInv L m1 td1 left m2 td2) (hn : (m1.map (·.1)).Nodup) (hwf : ∀ e ∈ m1, wfN e.1) {e : (Nat × Int) × List (Nat × Int)} (he : e ∈ m1) (hc : cov L e.1 = true) (hl : left (kN e.1) = true) :
    SInv L m1 td1 (fun l => left l && !l.sameKey (kN e.1)) (m2.filter (fun a => a.1 != e.1)) (td2 ++ e.2) := by
  have key : ∀ a ∈ m1, (kN a.1).sameKey (kN e.1) = true ↔ a.1 = e.1 := fun a ha => ⟨fun hs => kN_inj (hwf a ha) (hwf e he) (WideAt.sameKey_eq hs), fun e1 => by
    rw [e1]
    exact WideAt.sameKey_self (law.key (keyN (hwf e he)))⟩
  have hem : e ∈ m2 := by rw [h.map_]; exact List.mem_filter.2 ⟨he, by simp [hl]⟩
  refine ⟨?_, fun y hy => List.mem_append_left _ (h.old y hy), fun a ha hca hla y hy => ?_, fun y hy => ?_, ?_, fun l hl => h.dom l (by simp at hl; exact hl.1)⟩
  · rw [h.map_, List.filter_filter]
    refine List.filter_congr (fun a ha => ?_)
    by_cases hs : (kN a.1).sameKey (kN e.1) = true
    · have e1 := (key a ha).1 hs
      rw [e1, hc]
      have : (kN e.1).sameKey (kN e.1) = true := by rw [e1] at hs; exact hs
      simp [this]
    · have e1 : a.1 ≠ e.1 := fun e1 => hs ((key a ha).2 e1)
      simp [hs, e1]
  · by_cases hs : (kN a.1).sameKey (kN e.1) = true
    · have e1 := (key a ha).1 hs
      have : a = e := by
        have h1 := (look_some hn (k := a.1) (ks := a.2)).2 ha
        have h2 := (look_some hn (k := e.1) (ks := e.2)).2 he
        rw [e1, h2] at h1
        exact Prod.ext e1 (by simpa using h1.symm)
      rw [this] at hy
      exact List.mem_append_right _ hy
    · simp only [hs, Bool.not_false, Bool.and_true] at hla
      exact List.mem_append_left _ (h.new a ha hca (by simpa using hla) y hy)
  · rcases List.mem_append.1 hy with hy | hy
    · exact h.only y hy
    · exact Or.inr ⟨e, he, hc, hy⟩
  · have hn2 : (m2.map (·.1)).Nodup := by rw [h.map_]; exact hn.sublist (List.filter_sublist.map _)
    have := total_strike hn2 hem
    have := h.count
    simp only [List.length_append]
    omega

/-- The sweep is over. -/
theorem SInv.done {L m1 td1 left m2 td2} (h : SInv L m1 td1 left m2 td2) (hl : ∀ l, left l = false) : m2 = m1.filter (fun e => !cov L e.1) ∧ (∀ e ∈ m1, cov L e.1 = true → ∀ y ∈ e.2, y ∈ td2) :=
  ⟨by rw [h.map_]; exact List.filter_congr (fun a _ => by simp [hl]), fun e he hc => h.new e he hc (hl _)⟩

/-- ONE ROUND OF A LOSS THAT GIVES SOMETHING UP. -/
theorem OInv.swept {L0 M0 k L td x} {m1 m2 : WMap} {td2 : List (Nat × Int)} {left : Lit → Bool} (hn : (m1.map (·.1)).Nodup) (h : OInv L0 M0 k L (look m1) (td ++ [x])) (hs : x.2 ≠ 0) (hc : cov L x = false)
    (hS : SInv (upd L x.1 (newG (L x.1) x.2)) m1 td left m2 td2) (hl : ∀ l, left l = false) : OInv L0 M0 k (upd L x.1 (newG (L x.1) x.2)) (look m2) td2 := by
  obtain ⟨h1, h2⟩ := hS.done hl
  have := h.take (L1 := upd L x.1 (newG (L x.1) x.2)) hs hc rfl (todo1 := td2) hS.old (fun a ks ha hca y hy => h2 (a, ks) ((look_some hn).1 ha) hca y hy) (fun y hy => by
    rcases hS.only y hy with h3 | ⟨e, he, hce, hye⟩
    · exact Or.inl h3
    · exact Or.inr ⟨e.1, e.2, (look_some hn).2 he, hce, hye⟩)
  rw [h1, look_filter hn]
  exact this

/-! ### Rows and iterators while other blocks turn -/

theorem TD.iter {w w' : World} {B tg cap td r} (h : TD w B tg cap td) (hg : w.grownBy w' (some r)) (hi : ∃ a b c d, w.heap[r]? = some (.mapIter a b c d)) : TD w' B tg cap td := by
  obtain ⟨_, c, hc⟩ := h.block
  obtain ⟨a, b, c', d, hi⟩ := hi
  exact h.kept (hg.block _ (lt_of_heap hc) (fun e => by cases e; rw [hc] at hi; cases hi))
theorem TD.turned {w w' : World} {B tg cap td mb} (h : TD w B tg cap td) (ht : w.mapTurned w' mb) : TD w' B tg cap td := by
  obtain ⟨_, c, hc⟩ := h.block
  have hg := ht.grown
  obtain ⟨es, clock, _, _, hb, _⟩ := ht
  exact h.kept (hg.block _ (lt_of_heap hc) (fun e => by cases e; rw [hc] at hb; cases hb))
theorem TD.set {w w' : World} {B tg cap td ab nb sub L} (h : TD w B tg cap td) (hl : Lost w ab nb sub L) (hf : Fr (lostOwn ab nb sub) w w') : TD w' B tg cap td := by
  obtain ⟨_, c, hc⟩ := h.block
  exact h.kept (hf.block _ (lt_of_heap hc) (hl.not_own hc (by decide) (by decide)))

theorem ranges_iter {w : World} {r n cnt mb : Nat} {D : DataW Value} {left : Lit → Bool} (h : w.ranges Try.prog 73 rawR mb r n D left cnt) : ∃ a b c d, w.heap[r]? = some (.mapIter a b c d) := by
  obtain ⟨es, clock, since, seen, c0, _, _, _, _, hr, _⟩ := h
  exact ⟨_, _, _, _, hr⟩
theorem ranges_map {w : World} {r n cnt mb : Nat} {D : DataW Value} {left : Lit → Bool} (h : w.ranges Try.prog 73 rawR mb r n D left cnt) : ∃ es k, w.heap[mb]? = some (.map es k) := by
  obtain ⟨es, clock, since, seen, c0, hb, _⟩ := h
  exact ⟨_, _, hb⟩
theorem ranges_below {w w' : World} {r n cnt mb : Nat} {D : DataW Value} {left : Lit → Bool} (h : w.ranges Try.prog 73 rawR mb r n D left cnt) (hb : Below w.heap.size w w') : w'.ranges Try.prog 73 rawR mb r n D left cnt :=
  h.kept (row := none) ⟨hb.os, hb.tape, hb.output, hb.size, fun k hk _ => hb.block k hk⟩ (by simp) (by simp)
/-- .. while a row of keys is appended to. -/
theorem ranges_row {w w' : World} {r n cnt mb tg : Nat} {D : DataW Value} {left : Lit → Bool} (h : w.ranges Try.prog 73 rawR mb r n D left cnt) {c : Array Value} (hc : w.heap[tg]? = some (.cells c 73 (0, 0))) (hg : w.grownBy w' (some tg)) : w'.ranges Try.prog 73 rawR mb r n D left cnt := by
  obtain ⟨a, b, c', d, hi⟩ := ranges_iter h
  obtain ⟨es, k, hm⟩ := ranges_map h
  exact h.kept hg (fun e => by cases e; rw [hc] at hm; cases hm) (fun e => by cases e; rw [hc] at hi; cases hi)

end Go.Proofs.Qxb6602500a
