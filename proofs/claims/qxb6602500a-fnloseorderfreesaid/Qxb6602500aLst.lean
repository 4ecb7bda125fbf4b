import Derived.Test.Qxb6602500aWts
import Derived.Deep.AppendLies
namespace Go.Proofs.Qxb6602500a
open Go.RowKit

theorem Lost.tag {w ab nb sub L} (h : Lost w ab nb sub L) {b : Nat} (hb : lostOwn ab nb sub b) : ∃ c t, w.heap[b]? = some (.cells c t (0, 0)) ∧ (t = 106 ∨ t = 114) := by
  rcases hb with rfl | ⟨i, hi, hs⟩
  · obtain ⟨a, h1, _⟩ := h.arr; exact ⟨a, 106, h1, Or.inl rfl⟩
  · obtain ⟨c, h1, _⟩ := h.blk i b hi hs; exact ⟨c, 114, h1, Or.inr rfl⟩

/-- A block of another kind is none of the table's. -/
theorem Lost.not_own {w ab nb sub L} (h : Lost w ab nb sub L) {b : Nat} {c : Array Value} {t : TypeId} (hb : w.heap[b]? = some (.cells c t (0, 0))) (h1 : t ≠ 106) (h2 : t ≠ 114) : ¬ lostOwn ab nb sub b := by
  intro ho
  obtain ⟨c', t', h3, h4⟩ := h.tag ho
  rw [hb] at h3
  cases h3
  rcases h4 with h4 | h4
  · exact h1 h4
  · exact h2 h4
theorem Lost.not_map {w ab nb sub L} (h : Lost w ab nb sub L) {b : Nat} {es : Array MapEntry} {k : Nat} (hb : w.heap[b]? = some (.map es k)) : ¬ lostOwn ab nb sub b := by
  intro ho
  obtain ⟨c', t', h3, _⟩ := h.tag ho
  rw [hb] at h3
  cases h3

theorem Wts.mapAt {w : World} {mb n : Nat} {D : DataW Value} {m : WMap} (h : Wts w mb n D m) : ∃ es k, w.heap[mb]? = some (.map es k) := by
  obtain ⟨es, k, hb, _⟩ := h.own
  exact ⟨es, k, hb⟩

theorem QCells.kept {w w' : World} {q mb ab nb : Nat} (h : QCells w q mb ab nb) (hk : ∀ (c : Array Value), w.heap[q]? = some (.cells c 91 (0, 0)) → w'.heap[q]? = w.heap[q]?) : QCells w' q mb ab nb := by
  obtain ⟨c, h1, h2⟩ := h
  exact ⟨c, (hk c h1).trans h1, h2⟩

/-- THE QUEUE's STATE INSIDE ONE LOSS that began in w: the table, the waiting lists; of what was there in w only the map and the table have turned. -/
structure LSt (w : World) (q mb ab nb n : Nat) (sub0 sub : Nat → Option Nat) (L : Nat → Int × Int) (D : DataW Value) (m : WMap) (wr : World) : Prop where
  lost : Lost wr ab nb sub L
  news : ∀ i s, i < nb → sub i = some s → sub0 i = some s ∨ w.heap.size ≤ s
  wts : Wts wr mb n D m
  fr : Fr (fun b => b = mb ∨ lostOwn ab nb sub0 b) w wr
  qc : QCells wr q mb ab nb

section
variable {w : World} {q mb ab nb n : Nat} {sub0 sub : Nat → Option Nat} {L : Nat → Int × Int} {D : DataW Value} {m : WMap} {wr : World}

theorem LSt.below (h : LSt w q mb ab nb n sub0 sub L D m wr) {w' : World} (hb : Below wr.heap.size wr w') : LSt w q mb ab nb n sub0 sub L D m w' :=
  ⟨h.lost.below hb, h.news, h.wts.below hb, h.fr.trans (T := fun _ => False) (Fr.of_below hb) (fun _ _ h => h.elim), h.qc.kept (fun _ h1 => hb.block _ (lt_of_heap h1))⟩

/-- Behind 'set'. -/
theorem LSt.set (h : LSt w q mb ab nb n sub0 sub L D m wr) {w' : World} {sub' : Nat → Option Nat} {L' : Nat → Int × Int} (hl : Lost w' ab nb sub' L') (hn : ∀ i s, i < nb → sub' i = some s → sub i = some s ∨ wr.heap.size ≤ s) (hf : Fr (lostOwn ab nb sub) wr w') :
    LSt w q mb ab nb n sub0 sub' L' D m w' := by
  refine ⟨hl, fun i s hi hs => ?_, h.wts.kept ?_ ?_, h.fr.trans hf ?_, h.qc.kept ?_⟩
  · rcases hn i s hi hs with h1 | h1
    · exact h.news i s hi h1
    · exact Or.inr (Nat.le_trans h.fr.size h1)
  · obtain ⟨es, k, hb⟩ := h.wts.mapAt
    exact hf.block _ (lt_of_heap hb) (h.lost.not_map hb)
  · intro b c t hb ht
    exact hf.block _ (lt_of_heap hb) (h.lost.not_own hb (by rcases ht with rfl | rfl <;> decide) (by rcases ht with rfl | rfl <;> decide))
  · intro i hi ho
    rcases ho with rfl | ⟨j, hj, hs⟩
    · exact Or.inr (Or.inl rfl)
    · rcases h.news j i hj hs with h1 | h1
      · exact Or.inr (Or.inr ⟨j, hj, h1⟩)
      · omega
  · intro c hb
    exact hf.block _ (lt_of_heap hb) (h.lost.not_own hb (by decide) (by decide))

/-- Behind a step that writes a row of the call's own (a block of keys). -/
theorem LSt.grown (h : LSt w q mb ab nb n sub0 sub L D m wr) {w' : World} {row : Option Nat} (hg : wr.grownBy w' row) (hr : ∀ g, row = some g → w.heap.size ≤ g ∧ ∃ c, wr.heap[g]? = some (.cells c 73 (0, 0))) :
    LSt w q mb ab nb n sub0 sub L D m w' := by
  have hk : ∀ (b : Nat) (c : Array Value) (t : TypeId), wr.heap[b]? = some (.cells c t (0, 0)) → t ≠ 73 → w'.heap[b]? = wr.heap[b]? := fun b c t hb ht => hg.block b (lt_of_heap hb) (fun e => by
    obtain ⟨_, c', h2⟩ := hr b e.symm
    rw [hb] at h2
    cases h2
    exact ht rfl)
  refine ⟨h.lost.kept (fun b hb => ?_), h.news, h.wts.kept ?_ ?_, h.fr.trans (T := fun b => row = some b) ⟨hg.os, hg.tape, hg.output, hg.size, fun k hk hne => hg.block k hk (fun e => hne e.symm)⟩ ?_, h.qc.kept ?_⟩
  · obtain ⟨c, t, h1, h2⟩ := h.lost.tag hb
    exact hk b c t h1 (by rcases h2 with rfl | rfl <;> decide)
  · obtain ⟨es, k, hb⟩ := h.wts.mapAt
    refine hg.block _ (lt_of_heap hb) (fun e => ?_)
    obtain ⟨_, c', h2⟩ := hr mb e.symm
    rw [hb] at h2
    cases h2
  · intro b c t hb ht
    exact hk b c t hb (by rcases ht with rfl | rfl <;> decide)
  · intro i hi e
    obtain ⟨h1, _⟩ := hr i e
    omega
  · intro c hb
    exact hk q c 91 hb (by decide)

/-- The waiting lists behind 'delete'. -/
theorem Wts.del (h : Wts wr mb n D m) {w' : World} {k : Nat × Int} (hk : wfN k) (ho : w'.ownsMap Try.prog 73 rawR mb n (D.del (kN k))) (ht : wr.mapTurned w' mb) : Wts w' mb n (D.del (kN k)) (m.filter (fun e => e.1 != k)) := by
  have hne : ∀ e ∈ m, (e.1 != k) = true → kN e.1 ≠ kN k := fun e he h1 h2 => by
    have := kN_inj (h.at_ e he).1 hk h2
    simp [this] at h1
  refine ⟨ho, fun l hl => ?_, fun e he => ?_, ?_⟩
  · by_cases e1 : l = kN k
    · rw [e1, Maps.has_del_same] at hl; cases hl
    · rw [Maps.has_del_other e1] at hl
      obtain ⟨e, he, rfl⟩ := h.dom l hl
      refine ⟨e, List.mem_filter.2 ⟨he, ?_⟩, rfl⟩
      simp only [bne_iff_ne, ne_eq]
      intro e2
      exact e1 (by rw [e2])
  · obtain ⟨he1, he2⟩ := List.mem_filter.1 he
    obtain ⟨h1, v, h2, h3⟩ := h.at_ e he1
    refine ⟨h1, v, fun z => by rw [Maps.atKey_del_other (hne e he1 he2)]; exact h2 z, h3.kept ?_⟩
    intro b c t hb _
    refine ht.grown.block b (lt_of_heap hb) (fun e1 => ?_)
    cases e1
    obtain ⟨es, kk, hb'⟩ := h.mapAt
    rw [hb] at hb'
    cases hb'
  · exact h.nodup.sublist (List.filter_sublist.map _)

theorem LSt.del (h : LSt w q mb ab nb n sub0 sub L D m wr) {w' : World} {k : Nat × Int} (hk : wfN k) (ho : w'.ownsMap Try.prog 73 rawR mb n (D.del (kN k))) (ht : wr.mapTurned w' mb) :
    LSt w q mb ab nb n sub0 sub L (D.del (kN k)) (m.filter (fun e => e.1 != k)) w' := by
  have hg := ht.grown
  have hne : ∀ (b : Nat) (c : Array Value) (t : TypeId), wr.heap[b]? = some (.cells c t (0, 0)) → w'.heap[b]? = wr.heap[b]? := fun b c t hb => hg.block b (lt_of_heap hb) (fun e => by
    cases e
    obtain ⟨es, kk, hb'⟩ := h.wts.mapAt
    rw [hb] at hb'
    cases hb')
  refine ⟨h.lost.kept (fun b hb => ?_), h.news, h.wts.del hk ho ht, h.fr.trans (T := fun b => b = mb) ⟨hg.os, hg.tape, hg.output, hg.size, fun k hk hne => hg.block k hk (fun e => hne (by cases e; rfl))⟩ (fun _ _ e => Or.inl e), h.qc.kept (fun c hb => hne q c 91 hb)⟩
  obtain ⟨c, t, h1, _⟩ := h.lost.tag hb
  exact hne b c t h1

/-- Behind a step that turns the iterator alone. -/
theorem LSt.iter (h : LSt w q mb ab nb n sub0 sub L D m wr) {w' : World} {r : Nat} (hg : wr.grownBy w' (some r)) (hr : w.heap.size ≤ r) (hi : ∃ a b c d, wr.heap[r]? = some (.mapIter a b c d)) : LSt w q mb ab nb n sub0 sub L D m w' := by
  obtain ⟨ia, ib, ic, id', hit⟩ := hi
  have hk : ∀ (b : Nat) (c : Array Value) (t : TypeId), wr.heap[b]? = some (.cells c t (0, 0)) → w'.heap[b]? = wr.heap[b]? := fun b c t hb => hg.block b (lt_of_heap hb) (fun e => by
    cases e
    rw [hb] at hit
    cases hit)
  refine ⟨h.lost.kept (fun b hb => ?_), h.news, h.wts.kept ?_ (fun b c t hb _ => hk b c t hb), h.fr.trans (T := fun b => b = r) ⟨hg.os, hg.tape, hg.output, hg.size, fun k hk hne => hg.block k hk (fun e => hne (by cases e; rfl))⟩ (fun i hi e => by omega), h.qc.kept (fun c hb => hk q c 91 hb)⟩
  · obtain ⟨c, t, h1, _⟩ := h.lost.tag hb
    exact hk b c t h1
  · obtain ⟨es, k, hb⟩ := h.wts.mapAt
    refine hg.block _ (lt_of_heap hb) (fun e => ?_)
    cases e
    rw [hb] at hit
    cases hit
end

/-! ### What is still to be given up -/

def tcells (td : List (Nat × Int)) : List Value := td.flatMap fun x => [.int .i64 x.1, .int .u64 x.2]

theorem tcells_len (td : List (Nat × Int)) : (tcells td).length = td.length * 2 := by
  induction td with
  | nil => rfl
  | cons x r ih =>
    rw [show tcells (x :: r) = [.int .i64 x.1, .int .u64 x.2] ++ tcells r from rfl, List.length_append, ih]
    simp only [List.length_cons, List.length_nil]
    omega
theorem tcells_append (a b : List (Nat × Int)) : tcells (a ++ b) = tcells a ++ tcells b := by simp [tcells]
theorem tcells_one (x : Nat × Int) : tcells [x] = [.int .i64 x.1, .int .u64 x.2] := rfl

/-- The slice v, of the call's own (from block B on), holds the keys td. -/
def TD (w : World) (B tg cap : Nat) (td : List (Nat × Int)) : Prop := w.ownsRow B 73 2 (.slice (some ⟨tg, 0, none⟩) td.length cap) td.length (tcells td)

theorem TD.block {w B tg cap td} (h : TD w B tg cap td) : B ≤ tg ∧ ∃ c, w.heap[tg]? = some (.cells c 73 (0, 0)) := by
  rcases h.2 with ⟨h1, _⟩ | ⟨g, cap', cur, h1, h2, h3, _⟩
  · cases h1
  · cases h1; exact ⟨h2, cur, h3⟩

theorem TD.kept {w w' : World} {B tg cap td} (h : TD w B tg cap td) (hk : w'.heap[tg]? = w.heap[tg]?) : TD w' B tg cap td := by
  refine ⟨h.1, ?_⟩
  rcases h.2 with ⟨h1, _⟩ | ⟨g, cap', cur, h1, h2, h3, h4⟩
  · cases h1
  · cases h1; exact Or.inr ⟨tg, cap, cur, rfl, h2, hk.trans h3, h4⟩

theorem TD.below {w w' : World} {B tg cap td} (h : TD w B tg cap td) (hb : Below w.heap.size w w') : TD w' B tg cap td := by
  obtain ⟨_, c, hc⟩ := h.block
  exact h.kept (hb.block _ (lt_of_heap hc))

theorem TD.pop {w B tg cap td x} (h : TD w B tg cap (td ++ [x])) : TD w B tg cap td := by
  have h' : w.ownsRow B 73 2 (.slice (some ⟨tg, 0, none⟩) (td.length + 1) cap) (td.length + 1) (tcells td ++ tcells [x]) := by
    have := h
    unfold TD at this
    simpa [tcells_append] using this
  exact ownsRow_pop (tcells_len td) h'

theorem TD.last {w B tg cap td x} (h : TD w B tg cap (td ++ [x])) : w.cell? ⟨tg, td.length * 2, none⟩ = some (.int .i64 x.1) ∧ w.cell? ⟨tg, td.length * 2 + 1, none⟩ = some (.int .u64 x.2) := by
  have h1 := World.ownsRow.cellAt h (td.length * 2) (by simp)
  have h2 := World.ownsRow.cellAt h (td.length * 2 + 1) (by simp; omega)
  rw [h1, h2, tcells_append]
  have hl := tcells_len td
  constructor
  · rw [List.getElem?_append_right (by omega), hl]
    simp [tcells_one]
  · rw [List.getElem?_append_right (by omega), hl]
    simp [tcells_one]

end Go.Proofs.Qxb6602500a
