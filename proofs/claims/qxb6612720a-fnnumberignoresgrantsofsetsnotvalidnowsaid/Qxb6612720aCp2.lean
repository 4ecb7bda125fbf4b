import Derived.Test.Qxb6612720aCall
import Derived.Test.Qxb6612720aSame
import Derived.Test.Qxb6612720aBytes
import Derived.Test.Qxb6612720aFits
import Derived.Laws.AppendOwnNone
namespace Go.Proofs.Qxb6612720a
open Go.RowKit
set_option maxRecDepth 100000

theorem info65 : (Try.prog.info? 65).map (fun i => (i.zero, i.size, i.bytes)) = some (some (.agg #[.string ⟨#[]⟩, .string ⟨#[]⟩, .slice none 0 0]), 3, 56) := by kernel_rfl
theorem info68 : (Try.prog.info? 68).map (fun i => (i.zero, i.size, i.bytes)) = some (some (.agg #[.string ⟨#[]⟩, .slice none 0 0]), 2, 40) := by kernel_rfl

/-- Listed entries under way: block N holds the first k; the refs lie in the world W. -/
def CpL (w W : World) (N : Nat) (ls : List (ByteArray × ByteArray × List (Int × Int))) (k : Nat) : Prop :=
  ∃ c : Array Value, w.heap[N]? = some (.cells c 65 (0, 0)) ∧ c.size = ls.length * 3 ∧ ∀ i (h : i < ls.length), i < k → c[i * 3]? = some (.string (ls[i]).1) ∧ c[i * 3 + 1]? = some (.string (ls[i]).2.1) ∧ ∃ ra rc, c[i * 3 + 2]? = some (.slice ra (ls[i]).2.2.length rc) ∧ RefsIn W ra (ls[i]).2.2
def CpU (w W : World) (N : Nat) (us : List (ByteArray × List (Int × Int))) (k : Nat) : Prop :=
  ∃ c : Array Value, w.heap[N]? = some (.cells c 68 (0, 0)) ∧ c.size = us.length * 2 ∧ ∀ i (h : i < us.length), i < k → c[i * 2]? = some (.string (us[i]).1) ∧ ∃ ra rc, c[i * 2 + 1]? = some (.slice ra (us[i]).2.length rc) ∧ RefsIn W ra (us[i]).2

theorem CpL.step {w W : World} {N : Nat} {ls : List (ByteArray × ByteArray × List (Int × Int))} {k : Nat} (h : CpL w W N ls k) (hk : k < ls.length) {A B : ByteArray} {ra : Option Addr} {n rc : Nat} (hA : A = (ls[k]).1) (hB : B = (ls[k]).2.1) (hn : n = (ls[k]).2.2.length) (hr : RefsIn W ra (ls[k]).2.2) :
    CpL (((w.setCell ⟨N, k * 3, none⟩ (.string A)).setCell ⟨N, k * 3 + 1, none⟩ (.string B)).setCell ⟨N, k * 3 + 2, none⟩ (.slice ra n rc)) W N ls (k + 1) := by
  obtain ⟨c, h1, h2, h3⟩ := h
  refine ⟨_, block_set (block_set (block_set h1 _) _) _, by simp [h2], fun i hi hik => ?_⟩
  by_cases e : i = k
  · subst e
    refine ⟨?_, ?_, ra, rc, ?_, hr⟩
    · rw [Array.getElem?_setIfInBounds_ne (by omega), Array.getElem?_setIfInBounds_ne (by omega), Array.getElem?_setIfInBounds_self_of_lt (by omega), hA]
    · rw [Array.getElem?_setIfInBounds_ne (by omega), Array.getElem?_setIfInBounds_self_of_lt (by simp; omega), hB]
    · rw [Array.getElem?_setIfInBounds_self_of_lt (by simp; omega), hn]
  · obtain ⟨x1, x2, ra', rc', x3, x4⟩ := h3 i hi (by omega)
    refine ⟨?_, ?_, ra', rc', ?_, x4⟩
    · rw [Array.getElem?_setIfInBounds_ne (by omega), Array.getElem?_setIfInBounds_ne (by omega), Array.getElem?_setIfInBounds_ne (by omega)]; exact x1
    · rw [Array.getElem?_setIfInBounds_ne (by omega), Array.getElem?_setIfInBounds_ne (by omega), Array.getElem?_setIfInBounds_ne (by omega)]; exact x2
    · rw [Array.getElem?_setIfInBounds_ne (by omega), Array.getElem?_setIfInBounds_ne (by omega), Array.getElem?_setIfInBounds_ne (by omega)]; exact x3
theorem CpU.step {w W : World} {N : Nat} {us : List (ByteArray × List (Int × Int))} {k : Nat} (h : CpU w W N us k) (hk : k < us.length) {A : ByteArray} {ra : Option Addr} {n rc : Nat} (hA : A = (us[k]).1) (hn : n = (us[k]).2.length) (hr : RefsIn W ra (us[k]).2) :
    CpU ((w.setCell ⟨N, k * 2, none⟩ (.string A)).setCell ⟨N, k * 2 + 1, none⟩ (.slice ra n rc)) W N us (k + 1) := by
  obtain ⟨c, h1, h2, h3⟩ := h
  refine ⟨_, block_set (block_set h1 _) _, by simp [h2], fun i hi hik => ?_⟩
  by_cases e : i = k
  · subst e
    refine ⟨?_, ra, rc, ?_, hr⟩
    · rw [Array.getElem?_setIfInBounds_ne (by omega), Array.getElem?_setIfInBounds_self_of_lt (by omega), hA]
    · rw [Array.getElem?_setIfInBounds_self_of_lt (by simp; omega), hn]
  · obtain ⟨x1, ra', rc', x3, x4⟩ := h3 i hi (by omega)
    refine ⟨?_, ra', rc', ?_, x4⟩
    · rw [Array.getElem?_setIfInBounds_ne (by omega), Array.getElem?_setIfInBounds_ne (by omega)]; exact x1
    · rw [Array.getElem?_setIfInBounds_ne (by omega), Array.getElem?_setIfInBounds_ne (by omega)]; exact x3

/-- The refs of one entry changed. -/
theorem CpL.put {w W : World} {N : Nat} {ls : List (ByteArray × ByteArray × List (Int × Int))} (h : CpL w W N ls ls.length) {k : Nat} (hk : k < ls.length) {ra : Option Addr} {n rc : Nat} {rs : List (Int × Int)} (hn : n = rs.length) (hr : RefsIn W ra rs) :
    CpL (w.setCell ⟨N, k * 3 + 2, none⟩ (.slice ra n rc)) W N (ls.set k ((ls[k]).1, (ls[k]).2.1, rs)) ls.length := by
  obtain ⟨c, h1, h2, h3⟩ := h
  refine ⟨_, block_set h1 _, by simp [h2], fun i hi hik => ?_⟩
  have hi' : i < ls.length := by simpa using hi
  obtain ⟨x1, x2, ra', rc', x3, x4⟩ := h3 i hi' hik
  by_cases e : i = k
  · subst e
    rw [List.getElem_set_self]
    refine ⟨?_, ?_, ra, rc, ?_, hr⟩
    · rw [Array.getElem?_setIfInBounds_ne (by omega)]; exact x1
    · rw [Array.getElem?_setIfInBounds_ne (by omega)]; exact x2
    · rw [Array.getElem?_setIfInBounds_self_of_lt (by omega), hn]
  · rw [List.getElem_set_ne (fun e2 => e e2.symm)]
    refine ⟨?_, ?_, ra', rc', ?_, x4⟩
    · rw [Array.getElem?_setIfInBounds_ne (by omega)]; exact x1
    · rw [Array.getElem?_setIfInBounds_ne (by omega)]; exact x2
    · rw [Array.getElem?_setIfInBounds_ne (by omega)]; exact x3
theorem CpU.put {w W : World} {N : Nat} {us : List (ByteArray × List (Int × Int))} (h : CpU w W N us us.length) {k : Nat} (hk : k < us.length) {ra : Option Addr} {n rc : Nat} {rs : List (Int × Int)} (hn : n = rs.length) (hr : RefsIn W ra rs) :
    CpU (w.setCell ⟨N, k * 2 + 1, none⟩ (.slice ra n rc)) W N (us.set k ((us[k]).1, rs)) us.length := by
  obtain ⟨c, h1, h2, h3⟩ := h
  refine ⟨_, block_set h1 _, by simp [h2], fun i hi hik => ?_⟩
  have hi' : i < us.length := by simpa using hi
  obtain ⟨x1, ra', rc', x3, x4⟩ := h3 i hi' hik
  by_cases e : i = k
  · subst e
    rw [List.getElem_set_self]
    refine ⟨?_, ra, rc, ?_, hr⟩
    · rw [Array.getElem?_setIfInBounds_ne (by omega)]; exact x1
    · rw [Array.getElem?_setIfInBounds_self_of_lt (by omega), hn]
  · rw [List.getElem_set_ne (fun e2 => e e2.symm)]
    refine ⟨?_, ra', rc', ?_, x4⟩
    · rw [Array.getElem?_setIfInBounds_ne (by omega)]; exact x1
    · rw [Array.getElem?_setIfInBounds_ne (by omega)]; exact x3

theorem CpL.other {w W : World} {N b j : Nat} {ls : List (ByteArray × ByteArray × List (Int × Int))} {k : Nat} (h : CpL w W N ls k) (hb : N ≠ b) (v : Value) : CpL (w.setCell ⟨b, j, none⟩ v) W N ls k := by
  obtain ⟨c, h1, h2⟩ := h
  exact ⟨c, (Below.heap_setCell _ _ _ _ hb).trans h1, h2⟩
theorem CpL.later {w w' W : World} {N : Nat} {ls : List (ByteArray × ByteArray × List (Int × Int))} {k : Nat} (h : CpL w W N ls k) (hb : Below w.heap.size w w') : CpL w' W N ls k := by
  obtain ⟨c, h1, h2⟩ := h
  exact ⟨c, (hb.block _ (lt_of_heap h1)).trans h1, h2⟩
theorem CpL.lt {w W : World} {N : Nat} {ls : List (ByteArray × ByteArray × List (Int × Int))} {k : Nat} (h : CpL w W N ls k) : N < w.heap.size := by
  obtain ⟨c, h1, _⟩ := h
  exact lt_of_heap h1
theorem CpL.listed {w W : World} {N : Nat} {ls : List (ByteArray × ByteArray × List (Int × Int))} (h : CpL w W N ls ls.length) (hb : Below W.heap.size W w) : ListedIn w (some ⟨N, 0, none⟩) ls := by
  obtain ⟨c, h1, _, h3⟩ := h
  refine Or.inr ⟨N, 0, rfl, fun i hi => ?_⟩
  obtain ⟨x1, x2, ra, rc, x3, x4⟩ := h3 i hi hi
  rw [Nat.zero_add]
  exact ⟨cell_of_block h1 x1, cell_of_block h1 x2, ra, rc, cell_of_block h1 x3, x4.later hb⟩
theorem CpU.unlisted {w W : World} {N : Nat} {us : List (ByteArray × List (Int × Int))} (h : CpU w W N us us.length) (hb : Below W.heap.size W w) : UnlistedIn w (some ⟨N, 0, none⟩) us := by
  obtain ⟨c, h1, _, h3⟩ := h
  refine Or.inr ⟨N, 0, rfl, fun i hi => ?_⟩
  obtain ⟨x1, ra, rc, x3, x4⟩ := h3 i hi hi
  rw [Nat.zero_add]
  exact ⟨cell_of_block h1 x1, ra, rc, cell_of_block h1 x3, x4.later hb⟩
theorem CpL.base {w W W' : World} {N : Nat} {ls : List (ByteArray × ByteArray × List (Int × Int))} {k : Nat} (h : CpL w W N ls k) (hb : Below W.heap.size W W') : CpL w W' N ls k := by
  obtain ⟨c, h1, h2, h3⟩ := h
  refine ⟨c, h1, h2, fun i hi hik => ?_⟩
  obtain ⟨x1, x2, ra, rc, x3, x4⟩ := h3 i hi hik
  exact ⟨x1, x2, ra, rc, x3, x4.later hb⟩
end Go.Proofs.Qxb6612720a
