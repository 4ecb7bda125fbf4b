import Derived.Test.Qxb6612720aKeyS
namespace Go.Proofs.Qxb6612720a
open Go.RowKit
set_option maxRecDepth 100000

/-- A MAP IN MEMORY, its values as they lie: block mb holds just the entries m; D is its datum. -/
structure MapIs (w : World) (KT : TypeId) (mb n : Nat) (D : DataW Value) (m : List (Lit × Value)) : Prop where
  own : w.ownsMap Try.prog KT rawR mb n D
  dom : ∀ l, Maps.has D l = true → ∃ e ∈ m, l = e.1
  at_ : ∀ e ∈ m, ∀ z, D.atKey e.1 z = .held e.2
  nodup : (m.map (·.1)).Nodup

theorem MapIs.kept {w w' : World} {KT : TypeId} {mb n : Nat} {D : DataW Value} {m : List (Lit × Value)} (h : MapIs w KT mb n D m) (hm : w'.heap[mb]? = w.heap[mb]?) : MapIs w' KT mb n D m := by
  refine ⟨?_, h.dom, h.at_, h.nodup⟩
  obtain ⟨es, clock, hb, rest⟩ := h.own
  exact ⟨es, clock, hm.trans hb, rest⟩

theorem MapIs.later {w w' : World} {KT : TypeId} {mb n : Nat} {D : DataW Value} {m : List (Lit × Value)} (h : MapIs w KT mb n D m) (hb : Below w.heap.size w w') : MapIs w' KT mb n D m :=
  h.kept (hb.block _ h.own.lt)

theorem MapIs.has {w : World} {KT : TypeId} {mb n : Nat} {D : DataW Value} {m : List (Lit × Value)} (h : MapIs w KT mb n D m) {kl : Lit} : Maps.has D kl = true ↔ ∃ v, (kl, v) ∈ m := by
  constructor
  · intro hh
    obtain ⟨⟨l, v⟩, he, rfl⟩ := h.dom _ hh
    exact ⟨v, he⟩
  · rintro ⟨v, he⟩
    exact Maps.has_true_of_atKey (h.at_ _ he)

/-- 'v, ok := m[k]'. -/
theorem MapIs.look_ok {w : World} {KT t e : TypeId} {mb n : Nat} {D : DataW Value} {m : List (Lit × Value)} (h : MapIs w KT mb n D m) (K : Maps.Keyed Try.prog KT) (ht : Try.prog.underlying t = some (.map KT e)) {z : Value} (hz : (zeroValue e).run Try.prog w = .ok z w) {kv : Value} {kl : Lit} (hk : keyOf Try.prog KT kv = some kl) :
    ∃ v, (Instr.lookup t (.map (some mb)) kv true).run Try.prog w = .ok (.tuple #[v, .bool (Maps.has D kl)]) w ∧ ((kl, v) ∈ m ∨ ((∀ x, (kl, x) ∉ m) ∧ v = z)) := by
  obtain ⟨v, ps, hrun, hv⟩ := h.own.look_ok K ht hz (zd := .held z) (zp := []) rfl hk
  simp only [rawR, Option.some.injEq, Prod.mk.injEq] at hv
  refine ⟨v, hrun, ?_⟩
  cases hh : Maps.has D kl with
  | true =>
    obtain ⟨x, hx⟩ := h.has.1 hh
    have e2 : v = x := by
      have := hv.1.trans (h.at_ _ hx _)
      simpa using this
    exact Or.inl (e2 ▸ hx)
  | false =>
    rw [Maps.atKey_of_not_has hh] at hv
    refine Or.inr ⟨fun x hx => ?_, by simpa using hv.1⟩
    rw [h.has.2 ⟨x, hx⟩] at hh
    cases hh

/-- 'm[k]'. -/
theorem MapIs.look {w : World} {KT t e : TypeId} {mb n : Nat} {D : DataW Value} {m : List (Lit × Value)} (h : MapIs w KT mb n D m) (K : Maps.Keyed Try.prog KT) (ht : Try.prog.underlying t = some (.map KT e)) {z : Value} (hz : (zeroValue e).run Try.prog w = .ok z w) {kv : Value} {kl : Lit} (hk : keyOf Try.prog KT kv = some kl) {x : Value} (hx : (kl, x) ∈ m) :
    (Instr.lookup t (.map (some mb)) kv false).run Try.prog w = .ok x w := by
  obtain ⟨v, ps, hrun, hv⟩ := h.own.lookup K ht hz (zd := .held z) (zp := []) rfl hk
  simp only [rawR, Option.some.injEq, Prod.mk.injEq] at hv
  have e2 : v = x := by
    have := hv.1.trans (h.at_ _ hx _)
    simpa using this
  rw [← e2]
  exact hrun

/-- 'm[k] = v' at a key that is new. -/
theorem MapIs.store {w : World} {KT t e : TypeId} {mb n : Nat} {D : DataW Value} {m : List (Lit × Value)} (h : MapIs w KT mb n D m) (K : Maps.Keyed Try.prog KT) (ht : Try.prog.underlying t = some (.map KT e)) (hn : n < maxLen) {kv v : Value} {kl : Lit} (hk : keyOf Try.prog KT kv = some kl) (hnew : ∀ x, (kl, x) ∉ m) :
    ∃ w', (Instr.mapUpdate t (.map (some mb)) kv v).run Try.prog w = .ok () w' ∧ MapIs w' KT mb (n + 1) (D.put kl (.held v)) ((kl, v) :: m) ∧ w.mapTurned w' mb := by
  obtain ⟨w', hrun, hown, hturn⟩ := h.own.store K ht hn (val := v) (d := .held v) (ps := []) hk rfl
  have hM := h.own.isMap
  have hkl := K.key hk
  refine ⟨w', hrun, ⟨hown, fun l hl => ?_, fun x hx z => ?_, ?_⟩, hturn⟩
  · by_cases el : l = kl
    · exact ⟨(kl, v), by simp, el⟩
    · rw [Maps.has_put_other el] at hl
      obtain ⟨x, hx, rfl⟩ := h.dom _ hl
      exact ⟨x, List.mem_cons_of_mem _ hx, rfl⟩
  · rcases List.mem_cons.1 hx with rfl | hx
    · exact Maps.atKey_put_same hM hkl _ _
    · have ne : x.1 ≠ kl := fun el => hnew x.2 (by rw [← el]; exact hx)
      rw [Maps.atKey_put_other ne]
      exact h.at_ _ hx _
  · rw [List.map_cons, List.nodup_cons]
    refine ⟨fun hm => ?_, h.nodup⟩
    obtain ⟨x, hx, ex⟩ := List.mem_map.1 hm
    have ex' : x.1 = kl := ex
    exact hnew x.2 (by rw [← ex']; exact hx)

section
variable {w : World} {ops : Array Oper} {rest : List Oper} {o : Oper} {a : Act} {Q : Exit → Act → World → Prop}

/-- THE STEP of a range over a map: one entry that is left, or the end. -/
theorem wpList_next_map {α : Type} (hg : o.guard = none) (it : Operand) (hop : o.op = Op.next it false) (KT : TypeId) (K : Maps.Keyed Try.prog KT) (mkK : α → Value) (invK : ∀ key kl, keyOf Try.prog KT key = some kl → ∃ x, key = mkK x)
    (mb r n : Nat) (D : DataW Value) (m : List (Lit × Value)) (left : Lit → Bool) (cnt : Nat) (hit : a.eval it = .pointer (some ⟨r, 0, none⟩)) (h : w.ranges Try.prog KT rawR mb r n D left cnt)
    (hdom : ∀ l, left l = true → ∃ e ∈ m, l = e.1) (hat : ∀ e ∈ m, ∀ z, D.atKey e.1 z = .held e.2)
    (hDone : cnt = 0 → (∀ kl, left kl = false) → wpList Try.prog ops Q rest (a.put o.dst (.tuple #[.bool false])) w)
    (hMore : ∀ (x : α) (kl : Lit) (v : Value) (w' : World) (cnt' : Nat), keyOf Try.prog KT (mkK x) = some kl → left kl = true → (kl, v) ∈ m → w'.ranges Try.prog KT rawR mb r n D (fun z => left z && !z.sameKey kl) cnt' → cnt' < cnt →
      w.grownBy w' (some r) → w'.heap.size = w.heap.size → (Instr.entry (.pointer (some ⟨r, 0, none⟩))).run Try.prog w' = .ok (.tuple #[mkK x, v]) w' → wpList Try.prog ops Q rest (a.put o.dst (.tuple #[.bool true, mkK x, v])) w') :
    wpList Try.prog ops Q (o :: rest) a w := by
  refine wpList_next_ranges (β := Value) w hg it hop KT K rawR mkK id invK (fun v _ _ => ⟨v, rfl⟩) mb r n D left cnt hit h hDone ?_
  intro x c kl y w' cnt' hkey hlk hv hat' hrg hlt hgr hsz hen
  obtain ⟨⟨l, v⟩, he, rfl⟩ := hdom kl hlk
  have e2 : c = v := by
    have h1 := hat' .nil
    rw [hat _ he] at h1
    simp only [rawR, id, Option.some.injEq] at hv
    rw [← hv] at h1
    simpa using h1.symm
  subst e2
  exact hMore x _ c w' cnt' hkey hlk he hrg hlt hgr hsz hen
end

theorem ranges_iter {w : World} {KT : TypeId} {r n cnt mb : Nat} {D : DataW Value} {left : Lit → Bool} (h : w.ranges Try.prog KT rawR mb r n D left cnt) : ∃ a b c d, w.heap[r]? = some (.mapIter a b c d) := by
  obtain ⟨es, clock, since, seen, c0, _, _, _, _, hr, _⟩ := h
  exact ⟨_, _, _, _, hr⟩
end Go.Proofs.Qxb6612720a
