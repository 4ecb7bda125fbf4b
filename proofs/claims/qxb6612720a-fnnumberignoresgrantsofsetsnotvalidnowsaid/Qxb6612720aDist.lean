import Derived.Test.Qxb6612720aIn
import Derived.Test.Qxb6612720aPlain
import Derived.Deep.AppendLies
namespace Go.Proofs.Qxb6612720a
open Go.RowKit
set_option maxRecDepth 100000

/-- A row of refs as cells. -/
def rcells (rs : List (Int × Int)) : List Value := rs.flatMap fun x => [.int .i64 x.1, .int .i64 x.2]
theorem rcells_len (rs : List (Int × Int)) : (rcells rs).length = rs.length * 2 := by
  induction rs with
  | nil => rfl
  | cons a r ih => simp [rcells] at ih ⊢; omega
theorem rcells_append (a b : List (Int × Int)) : rcells (a ++ b) = rcells a ++ rcells b := by simp [rcells]
theorem rcells_at (rs : List (Int × Int)) (i : Nat) (h : i < rs.length) : (rcells rs)[i * 2]? = some (.int .i64 (rs[i]).1) ∧ (rcells rs)[i * 2 + 1]? = some (.int .i64 (rs[i]).2) := by
  induction rs generalizing i with
  | nil => simp at h
  | cons a r ih =>
    cases i with
    | zero => exact ⟨rfl, rfl⟩
    | succ i =>
      have := ih i (by simpa using h)
      have e1 : (i + 1) * 2 = i * 2 + 1 + 1 := by omega
      rw [e1]
      exact this

/-- A row of refs of the call's own: of kind t. -/
def Own (w : World) (B : Nat) (t : TypeId) (v : Value) (rs : List (Int × Int)) : Prop := w.ownsRow B t 2 v rs.length (rcells rs)

theorem Own.refs {w : World} {B : Nat} {t : TypeId} {v : Value} {rs : List (Int × Int)} (h : Own w B t v rs) : ∃ a cap, v = .slice a rs.length cap ∧ RefsIn w a rs := by
  rcases h.2 with ⟨h1, h2⟩ | ⟨g, cap, cur, h1, h2, h3, h4, h5, h6, h7⟩
  · have e : rs = [] := List.length_eq_zero_iff.1 h2
    subst e
    exact ⟨none, 0, h1, Or.inl rfl⟩
  · refine ⟨_, _, h1, Or.inr ⟨g, 0, rfl, fun i hi => ?_⟩⟩
    have at' : ∀ j, j < rs.length * 2 → cur[j]? = (rcells rs)[j]? := fun j hj => by
      rw [← h7, List.getElem?_take, if_pos hj, Array.getElem?_toList]
    obtain ⟨r1, r2⟩ := rcells_at rs i hi
    rw [← at' _ (by omega)] at r1 r2
    rw [Nat.zero_add]
    exact ⟨cell_of_block h3 r1, cell_of_block h3 r2⟩

theorem Own.nil (w : World) (B : Nat) (t : TypeId) : Own w B t (.slice none 0 0) [] := World.ownsRow_nil _ _ _ _

theorem Own.later {w w' : World} {B : Nat} {t : TypeId} {v : Value} {rs : List (Int × Int)} (h : Own w B t v rs) (hb : Below w.heap.size w w') : Own w' B t v rs := by
  refine ⟨h.1, ?_⟩
  rcases h.2 with h1 | ⟨g, cap, cur, h1, h2, h3, h4⟩
  · exact Or.inl h1
  · exact Or.inr ⟨g, cap, cur, h1, h2, (hb.block _ (lt_of_heap h3)).trans h3, h4⟩
end Go.Proofs.Qxb6612720a
