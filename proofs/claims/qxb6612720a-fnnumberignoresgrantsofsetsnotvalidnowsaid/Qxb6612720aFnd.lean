import Derived.Test.Qxb6612720aNst
import Derived.StringKeys
namespace Go.Proofs.Qxb6612720a
open Go.RowKit
set_option maxRecDepth 100000

/-! ### The key of the unlisted lists: a string -/
def kvT (x : ByteArray) : Value := .string x
def klT (x : ByteArray) : Lit := .string x.data.toList
theorem law9 : Maps.Keyed Try.prog 9 := Maps.Keyed.of_law (WideMaps.string_law Try.underlying9)
theorem keyT_mk {x : ByteArray} (h : x.size ≤ maxLen) : keyOf Try.prog 9 (kvT x) = some (klT x) := WideMaps.keyOf_string_mk Try.underlying9 h
theorem keyT_inv {v : Value} {l : Lit} (h : keyOf Try.prog 9 v = some l) : ∃ x, x.size ≤ maxLen ∧ v = kvT x ∧ l = klT x := by
  obtain ⟨s, h1, h2, h3⟩ := WideMaps.string_of_keyOf Try.underlying9 h
  exact ⟨s, h3, h1, h2⟩
theorem klT_inj {x y : ByteArray} (hx : x.size ≤ maxLen) (hy : y.size ≤ maxLen) (e : klT x = klT y) : x = y := by
  have h1 := law9.inj (keyT_mk hx) (e ▸ keyT_mk hy)
  simpa [kvT] using h1

/-- A map of lists of refs. -/
structure LsIn (w : World) (KT : TypeId) (FB n Bd : Nat) (D : DataW Value) (m : List (Lit × Value)) (L : List (Lit × List (Int × Int))) : Prop where
  map : MapIs w KT FB n D m
  val : ∀ e ∈ m, ∃ rs N, (e.1, rs) ∈ L ∧ e.2 = .slice (some ⟨N, 0, none⟩) rs.length rs.length ∧ CpR w N rs rs.length ∧ N < Bd
  all : ∀ x ∈ L, ∃ v, (x.1, v) ∈ m
  fn : ∀ kl rs rs', (kl, rs) ∈ L → (kl, rs') ∈ L → rs = rs'

theorem LsIn.later {w w' : World} {KT : TypeId} {FB n Bd : Nat} {D : DataW Value} {m : List (Lit × Value)} {L : List (Lit × List (Int × Int))} (h : LsIn w KT FB n Bd D m L) (hb : Below w.heap.size w w') : LsIn w' KT FB n Bd D m L := by
  refine ⟨h.map.later hb, fun e he => ?_, h.all, h.fn⟩
  obtain ⟨rs, N, h1, h2, h3, h4⟩ := h.val e he
  exact ⟨rs, N, h1, h2, h3.kept (hb.block _ h3.lt), h4⟩

/-- The bitset of one list. -/
def BitOf (w : World) (R rs : List (Int × Int)) (v : Value) : Prop :=
  ∃ c u, v = .slice (some ⟨c, 0, none⟩) ((R.length + 63) / 64) ((R.length + 63) / 64) ∧ WordsIn w c ((R.length + 63) / 64) u ∧ ∀ g (h : g < R.length), bitU u g = true ↔ R[g] ∈ rs

theorem BitOf.later {w w' : World} {R rs : List (Int × Int)} {v : Value} (h : BitOf w R rs v) (hb : Below w.heap.size w w') : BitOf w' R rs v := by
  obtain ⟨c, u, h1, h2, h3⟩ := h
  exact ⟨c, u, h1, h2.later hb, h3⟩

/-- A map of bitsets. -/
def BsIn (w : World) (KT : TypeId) (FB : Nat) (R : List (Int × Int)) (L : List (Lit × List (Int × Int))) : Prop :=
  ∃ n D m, MapIs w KT FB n D m ∧ ∀ x ∈ L, ∃ v, (x.1, v) ∈ m ∧ BitOf w R x.2 v

theorem BsIn.later {w w' : World} {KT : TypeId} {FB : Nat} {R : List (Int × Int)} {L : List (Lit × List (Int × Int))} (h : BsIn w KT FB R L) (hb : Below w.heap.size w w') : BsIn w' KT FB R L := by
  obtain ⟨n, D, m, h1, h2⟩ := h
  refine ⟨n, D, m, h1.later hb, fun x hx => ?_⟩
  obtain ⟨v, h3, h4⟩ := h2 x hx
  exact ⟨v, h3, h4.later hb⟩

theorem NumIn.later {w w' : World} {MB n : Nat} {R : List (Int × Int)} (h : NumIn w MB n R) (hb : Below w.heap.size w w') : NumIn w' MB n R := h.kept (hb.block _ h.lt)

theorem below_iter {w w' : World} {r : Nat} (h : w.grownBy w' (some r)) {B : Nat} (hB : B ≤ r) (hs : B ≤ w.heap.size) : Below B w w' :=
  ⟨h.os, h.tape, h.output, h.size, fun k hk => h.block k (by omega) (fun e => by have := Option.some.inj e; omega)⟩

theorem mt_block {w w' : World} {mb k : Nat} {cs : Array Value} {t : TypeId} (h : w.mapTurned w' mb) (hk : w.heap[k]? = some (.cells cs t (0, 0))) : w'.heap[k]? = some (.cells cs t (0, 0)) := by
  refine (map_other h (lt_of_heap hk) (fun e => ?_)).trans hk
  obtain ⟨es, clock, es', clock', hb, _⟩ := h
  rw [← e, hk] at hb
  cases hb
theorem mt_cell {w w' : World} {mb b o : Nat} {v : Value} (h : w.mapTurned w' mb) (hc : w.cell? ⟨b, o, none⟩ = some v) : w'.cell? ⟨b, o, none⟩ = some v := by
  have hne : b ≠ mb := fun e => by
    obtain ⟨es, clock, es', clock', hb, _⟩ := h
    subst e
    simp [World.cell?, hb] at hc
  have hlt := World.block_lt_of_cell? w ⟨b, o, none⟩ hc
  have e := map_other h hlt hne
  rw [← hc]
  simp only [World.cell?, e]
theorem WordsIn.turned {w w' : World} {mb b n : Nat} {u : Nat → Nat} (h : WordsIn w b n u) (ht : w.mapTurned w' mb) : WordsIn w' b n u := by
  obtain ⟨c, h1, h2⟩ := h
  exact ⟨c, mt_block ht h1, h2⟩
theorem BitOf.turned {w w' : World} {mb : Nat} {R rs : List (Int × Int)} {v : Value} (h : BitOf w R rs v) (ht : w.mapTurned w' mb) : BitOf w' R rs v := by
  obtain ⟨c, u, h1, h2, h3⟩ := h
  exact ⟨c, u, h1, h2.turned ht, h3⟩
theorem CpR.turned {w w' : World} {mb N : Nat} {rs : List (Int × Int)} {k : Nat} (h : CpR w N rs k) (ht : w.mapTurned w' mb) : CpR w' N rs k := by
  obtain ⟨c, h1, h2⟩ := h
  exact ⟨c, mt_block ht h1, h2⟩
/-- A map's iterator turns: cells do not. -/
theorem iter_block {w w' : World} {r k : Nat} {cs : Array Value} {t : TypeId} {a b c d} (h : w.grownBy w' (some r)) (hr : w.heap[r]? = some (.mapIter a b c d)) (hk : w.heap[k]? = some (.cells cs t (0, 0))) : w'.heap[k]? = some (.cells cs t (0, 0)) := by
  refine (h.block k (lt_of_heap hk) (fun e => ?_)).trans hk
  rw [Option.some.inj e, hr] at hk
  cases hk

theorem bits_hit {R rs : List (Int × Int)} {u : Nat → Nat} {t : Nat} {x : Int × Int} (hnd : R.Nodup) (ht : t < rs.length) (hx : x = rs[t]) (h : ∀ g (h : g < R.length), bitU u g = true ↔ R[g] ∈ rs.take t) :
    ∀ g (h : g < R.length), bitU (fun i => if i = R.idxOf x / 64 then u i ||| 2 ^ (R.idxOf x % 64) else u i) g = true ↔ R[g] ∈ rs.take (t + 1) := by
  intro g hg
  rw [bitU_set, Bool.or_eq_true, h g hg, decide_eq_true_iff, List.take_succ_eq_append_getElem ht, List.mem_append, List.mem_singleton, ← hx]
  constructor
  · rintro (h1 | h1)
    · exact Or.inl h1
    · right
      subst h1
      exact List.getElem_idxOf hg
  · rintro (h1 | h1)
    · exact Or.inl h1
    · right
      rw [← h1, hnd.idxOf_getElem g hg]
theorem bits_miss {R rs : List (Int × Int)} {u : Nat → Nat} {t : Nat} {x : Int × Int} (ht : t < rs.length) (hx : x = rs[t]) (hm : x ∉ R) (h : ∀ g (h : g < R.length), bitU u g = true ↔ R[g] ∈ rs.take t) :
    ∀ g (h : g < R.length), bitU u g = true ↔ R[g] ∈ rs.take (t + 1) := by
  intro g hg
  rw [h g hg, List.take_succ_eq_append_getElem ht, List.mem_append, List.mem_singleton, ← hx]
  constructor
  · exact Or.inl
  · rintro (h1 | h1)
    · exact h1
    · exact absurd (h1 ▸ List.getElem_mem hg) hm

theorem bitU_zero (g : Nat) : bitU (fun _ => 0) g = false := by simp [bitU]

theorem left_off {left : Lit → Bool} {kl l : Lit} (h : (left l && !l.sameKey kl) = false) : left l = false ∨ l = kl := by
  cases e : left l
  · exact Or.inl rfl
  · rw [e] at h
    right
    refine WideAt.sameKey_eq ?_
    simpa using h
end Go.Proofs.Qxb6612720a
