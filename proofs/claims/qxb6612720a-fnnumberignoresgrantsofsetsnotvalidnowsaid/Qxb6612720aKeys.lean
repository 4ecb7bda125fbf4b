import Derived.Test.Qxb6612720aLists
import Derived.DeepKeys4
import Derived.Maps.RangeWalk
import Derived.WideKeyEntry
namespace Go.Proofs.Qxb6612720a
open Go.RowKit
set_option maxRecDepth 100000

theorem laidOut : laidOutB Try.prog = true := by kernel_rfl
theorem row118 : (118 : TypeId) < Try.prog.types.size := of_decide_eq_true (by kernel_rfl)
theorem wide118 : (match Try.prog.underlying 118 with | some (.array _ _) | some (.struct _) => true | _ => false) = true := by rw [Try.underlying118]
theorem keyLaw : WideMaps.KeyLaw Try.prog 118 := deep_law_laid laidOut (m := 2) (by omega) row118 (by kernel_rfl) wide118
theorem law : Maps.Keyed Try.prog 118 := Maps.Keyed.of_law keyLaw
theorem cells118 : Try.prog.cellsOf 118 = 2 := by kernel_rfl
theorem cells3 : Try.prog.cellsOf 3 = 1 := by kernel_rfl
theorem keyType118 : Try.prog.keyType 118 = true := by kernel_rfl
theorem size_types : ∃ n : Nat, Try.prog.types.size = n + 1 := by
  have h : (118 : Nat) < Try.prog.types.size := row118
  revert h
  generalize Try.prog.types.size = m
  intro h
  exact ⟨m - 1, by omega⟩

/-- How a raw value is read: as it lies. -/
def rawR (v : Value) : Option (DataW Value × List MemPlace) := some (.held v, [])

def kvI (o s : Int) : Value := .agg #[.int .i64 o, .int .i64 s]
def klI (o s : Int) : Lit := .string (keyBytes [.int .i64 o, .int .i64 s])
def wfI (o s : Int) : Prop := (Lit.int .i64 o).wf = true ∧ (Lit.int .i64 s).wf = true

theorem lits_int (n : Nat) (v : Value) : Try.prog.keyLits (n + 1) 3 [v] = match v with | .int q' a => if q' = .i64 ∧ (Lit.int .i64 a).wf = true then some [.int .i64 a] else none | _ => none := by
  unfold Program.keyLits
  rw [Try.underlying3]
  cases v <;> rfl
theorem lits_key (n : Nat) (a b : Value) : Try.prog.keyLits (n + 2) 118 [a, b] = (Try.prog.keyLits (n + 1) 3 [a]).bind fun x => (Try.prog.keyLits (n + 1) 3 [b]).bind fun y => some (x ++ y) := by
  conv => lhs; unfold Program.keyLits; rw [Try.underlying118]
  simp only [cells118]
  simp [cells3]
  cases Try.prog.keyLits (n + 1) 3 [a] <;> cases Try.prog.keyLits (n + 1) 3 [b] <;> simp
theorem lits_int_inv {n : Nat} {v : Value} {x : List Lit} (h : Try.prog.keyLits (n + 1) 3 [v] = some x) : ∃ a, v = .int .i64 a ∧ (Lit.int .i64 a).wf = true ∧ x = [.int .i64 a] := by
  rw [lits_int] at h
  split at h
  · split at h
    · rename_i h1
      obtain ⟨rfl, h2⟩ := h1
      cases h
      exact ⟨_, rfl, h2, rfl⟩
    · cases h
  · cases h
theorem keyOf_agg (a b : Value) : keyOf Try.prog 118 (.agg #[a, b]) = (Try.prog.keyLits (Try.prog.types.size + 1) 118 [a, b]).map fun ls => .string (keyBytes ls) := by
  unfold keyOf
  rw [Try.underlying118]
  simp only [keyType118, Value.formed, Try.underlying118, cells118]
  rfl

theorem key_mk {o s : Int} (h : wfI o s) : keyOf Try.prog 118 (kvI o s) = some (klI o s) := by
  obtain ⟨n, hn⟩ := size_types
  rw [kvI, keyOf_agg, hn, lits_key, lits_int, lits_int]
  simp [h.1, h.2, klI]

theorem key_inv {v : Value} {l : Lit} (h : keyOf Try.prog 118 v = some l) : ∃ o s, wfI o s ∧ v = kvI o s ∧ l = klI o s := by
  obtain ⟨n, hn⟩ := size_types
  have hf : v.formed Try.prog 118 = true := by
    cases hv : v.formed Try.prog 118
    · unfold keyOf at h
      rw [Try.underlying118] at h
      simp [hv] at h
    · rfl
  cases v <;> simp [Value.formed, Try.underlying118, cells118] at hf
  rename_i cs
  obtain ⟨l0⟩ := cs
  match l0, hf with
  | [a, b], _ =>
    have h2 := h
    rw [show (⟨[a, b]⟩ : Array Value) = #[a, b] from rfl, keyOf_agg, hn, lits_key] at h2
    cases e1 : Try.prog.keyLits (n + 1) 3 [a] with
    | none => simp [e1] at h2
    | some x =>
      cases e2 : Try.prog.keyLits (n + 1) 3 [b] with
      | none => simp [e1, e2] at h2
      | some y =>
        obtain ⟨o, rfl, w1, rfl⟩ := lits_int_inv e1
        obtain ⟨q, rfl, w2, rfl⟩ := lits_int_inv e2
        simp [e1, e2] at h2
        exact ⟨o, q, ⟨w1, w2⟩, rfl, h2.symm⟩

theorem kl_inj {o s o' s' : Int} (h : wfI o s) (h' : wfI o' s') (e : klI o s = klI o' s') : o = o' ∧ s = s' := by
  have h1 := law.inj (key_mk h) (e ▸ key_mk h')
  simp [kvI] at h1
  exact h1
end Go.Proofs.Qxb6612720a
