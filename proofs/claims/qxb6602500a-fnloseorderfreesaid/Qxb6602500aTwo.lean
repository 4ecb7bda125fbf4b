import Derived.Test.Qxb6602500aBuild
namespace Go.Proofs.Qxb6602500a
open Go.RowKit
set_option maxRecDepth 100000

/-- A queue in memory. -/
structure QS (w : World) (q mb ab nb n : Nat) (sub : Nat → Option Nat) (L : Nat → Int × Int) (D : DataW Value) (m : WMap) : Prop where
  qc : QCells w q mb ab nb
  lost : Lost w ab nb sub L
  wts : Wts w mb n D m

theorem QS.below {w w' : World} {q mb ab nb n sub L D m} (h : QS w q mb ab nb n sub L D m) (hb : Below w.heap.size w w') : QS w' q mb ab nb n sub L D m :=
  ⟨h.qc.kept (fun _ h1 => hb.block _ (lt_of_heap h1)), h.lost.below hb, h.wts.below hb⟩

theorem QS.lst {w : World} {q mb ab nb n sub L D m} (h : QS w q mb ab nb n sub L D m) : LSt w q mb ab nb n sub sub L D m w :=
  ⟨h.lost, fun _ _ _ h => Or.inl h, h.wts, Fr.refl _ _, h.qc⟩

/-- TWO QUEUES, made since w, that share nothing that is written. -/
structure Two (w wr : World) (q mb ab nb n : Nat) (sub : Nat → Option Nat) (L : Nat → Int × Int) (D : DataW Value) (m : WMap) (q' mb' ab' n' : Nat) (sub' : Nat → Option Nat) (L' : Nat → Int × Int) (D' : DataW Value) (m' : WMap) : Prop where
  one : QS wr q mb ab nb n sub L D m
  two : QS wr q' mb' ab' nb n' sub' L' D' m'
  maps : mb ≠ mb'
  apart : ∀ b, lostOwn ab nb sub b → ¬ lostOwn ab' nb sub' b
  newM : w.heap.size ≤ mb ∧ w.heap.size ≤ mb'
  newL : ∀ b, (lostOwn ab nb sub b ∨ lostOwn ab' nb sub' b) → w.heap.size ≤ b
  below : Below w.heap.size w wr

section
variable {w wr : World} {q mb ab nb n : Nat} {sub : Nat → Option Nat} {L : Nat → Int × Int} {D : DataW Value} {m : WMap} {q' mb' ab' n' : Nat} {sub' : Nat → Option Nat} {L' : Nat → Int × Int} {D' : DataW Value} {m' : WMap}

theorem Two.swap (h : Two w wr q mb ab nb n sub L D m q' mb' ab' n' sub' L' D' m') : Two w wr q' mb' ab' nb n' sub' L' D' m' q mb ab n sub L D m :=
  ⟨h.two, h.one, h.maps.symm, fun b h1 h2 => h.apart b h2 h1, ⟨h.newM.2, h.newM.1⟩, fun b hb => h.newL b hb.symm, h.below⟩

theorem Two.step (h : Two w wr q mb ab nb n sub L D m q' mb' ab' n' sub' L' D' m') {w' : World} (hb : Below wr.heap.size wr w') : Two w w' q mb ab nb n sub L D m q' mb' ab' n' sub' L' D' m' :=
  ⟨h.one.below hb, h.two.below hb, h.maps, h.apart, h.newM, h.newL, h.below.trans (hb.mono h.below.size)⟩

theorem Two.built {w1 w2 : World} (h1 : Built w q mb ab nb n sub L D m w1) (h2 : Built w1 q' mb' ab' nb n' sub' L' D' m' w2) : Two w w2 q mb ab nb n sub L D m q' mb' ab' n' sub' L' D' m' := by
  have h3 := h1.step h2.below
  have hs := h1.below.size
  refine ⟨⟨h3.qc, h3.lost, h3.wts⟩, ⟨h2.qc, h2.lost, h2.wts⟩, fun e => ?_, fun b hb hb' => ?_, ⟨h1.newM, Nat.le_trans hs h2.newM⟩, fun b hb => ?_, h3.below⟩
  · have := h1.wts.own.lt
    have := h2.newM
    omega
  · have := h1.lost.lt hb
    have := h2.newL b hb'
    omega
  · rcases hb with hb | hb
    · exact h1.newL b hb
    · exact Nat.le_trans hs (h2.newL b hb)

/-- A loss in the first queue leaves the second alone. -/
theorem Two.lose (h : Two w wr q mb ab nb n sub L D m q' mb' ab' n' sub' L' D' m') {w1 : World} {sub1 : Nat → Option Nat} {L1 : Nat → Int × Int} {D1 : DataW Value} {m1 : WMap} (hl : LSt wr q mb ab nb n sub sub1 L1 D1 m1 w1) : Two w w1 q mb ab nb n sub1 L1 D1 m1 q' mb' ab' n' sub' L' D' m' := by
  obtain ⟨es, kk, hm1⟩ := h.one.wts.mapAt
  obtain ⟨es', kk', hm2⟩ := h.two.wts.mapAt
  have keepC : ∀ (b : Nat) (c : Array Value) (t : TypeId), wr.heap[b]? = some (.cells c t (0, 0)) → t ≠ 106 → t ≠ 114 → w1.heap[b]? = wr.heap[b]? := fun b c t hb t1 t2 => hl.fr.block b (lt_of_heap hb) (fun e => by
    rcases e with e | e
    · rw [e, hm1] at hb
      cases hb
    · exact h.one.lost.not_own hb t1 t2 e)
  have hnew : ∀ b, lostOwn ab nb sub1 b → lostOwn ab nb sub b ∨ wr.heap.size ≤ b := fun b hb => by
    rcases hb with hb | ⟨i, hi, hs⟩
    · exact Or.inl (Or.inl hb)
    · rcases hl.news i b hi hs with h1 | h1
      · exact Or.inl (Or.inr ⟨i, hi, h1⟩)
      · exact Or.inr h1
  refine ⟨⟨hl.qc, hl.lost, hl.wts⟩, ⟨h.two.qc.kept (fun c hb => keepC _ c 91 hb (by decide) (by decide)), h.two.lost.kept (fun b hb => ?_), h.two.wts.kept ?_ ?_⟩, h.maps, fun b hb hb' => ?_, h.newM, fun b hb => ?_, ?_⟩
  · refine hl.fr.block b (h.two.lost.lt hb) (fun e => ?_)
    rcases e with e | e
    · subst e
      exact h.two.lost.not_map hm1 hb
    · exact h.apart b e hb
  · refine hl.fr.block _ (lt_of_heap hm2) (fun e => ?_)
    rcases e with e | e
    · exact h.maps e.symm
    · exact h.one.lost.not_map hm2 e
  · intro b c t hb ht
    exact keepC b c t hb (by rcases ht with rfl | rfl <;> decide) (by rcases ht with rfl | rfl <;> decide)
  · rcases hnew b hb with h1 | h1
    · exact h.apart b h1 hb'
    · have := h.two.lost.lt hb'
      omega
  · rcases hb with hb | hb
    · rcases hnew b hb with h1 | h1
      · exact h.newL b (Or.inl h1)
      · exact Nat.le_trans h.below.size h1
    · exact h.newL b (Or.inr hb)
  · refine h.below.trans (hl.fr.below h.below.size (fun i hi e => ?_))
    rcases e with e | e
    · have := h.newM.1
      omega
    · have := h.newL i (Or.inl e)
      omega
end

/-- Two lists of waiters that are looked up alike have as many keys. -/
theorem length_of_look {m m' : WMap} (hn : (m.map (·.1)).Nodup) (hn' : (m'.map (·.1)).Nodup) (h : look m = look m') : m.length = m'.length := by
  have hp : (m.map (·.1)).Perm (m'.map (·.1)) := by
    rw [List.perm_ext_iff_of_nodup hn hn']
    intro a
    constructor
    · intro ha
      obtain ⟨e, he, rfl⟩ := List.mem_map.1 ha
      have h1 := (look_some hn (k := e.1) (ks := e.2)).2 he
      rw [h] at h1
      exact List.mem_map.2 ⟨_, (look_some hn').1 h1, rfl⟩
    · intro ha
      obtain ⟨e, he, rfl⟩ := List.mem_map.1 ha
      have h1 := (look_some hn' (k := e.1) (ks := e.2)).2 he
      rw [← h] at h1
      exact List.mem_map.2 ⟨_, (look_some hn).1 h1, rfl⟩
  simpa using hp.length_eq

set_option maxHeartbeats 400000 in
theorem bytes_calls (w : World) (v0 v1 v2 v5 v6 v7 v8 : Value) (a1 a2 : Option Addr) (n1 n2 c1 c2 : Nat) :
    Calls Try.prog 18 #[v0, v1, v2, .slice a1 n1 c1, .slice a2 n2 c2, v5, v6, v7, v8] w fun e w' => ∃ b, e = .returned (.bool b) ∧ w = w' ∧ (b = true → n1 ≤ 1048576 ∧ n2 ≤ 1048576) := by
  go_enter Try.func18, Try.ntmps18
  go_wp2
  all_goals go_ret
  all_goals refine ⟨_, rfl, rfl, ?_⟩
  all_goals intro h
  all_goals first | (exact ⟨by omega, by omega⟩) | cases h
end Go.Proofs.Qxb6602500a
