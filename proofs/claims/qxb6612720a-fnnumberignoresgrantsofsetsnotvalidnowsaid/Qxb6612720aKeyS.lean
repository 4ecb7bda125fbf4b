import Derived.Test.Qxb6612720aKeys
namespace Go.Proofs.Qxb6612720a
open Go.RowKit
set_option maxRecDepth 100000

/-! ### The key of the listed lists: two strings -/

theorem row112 : (112 : TypeId) < Try.prog.types.size := of_decide_eq_true (by kernel_rfl)
theorem wide112 : (match Try.prog.underlying 112 with | some (.array _ _) | some (.struct _) => true | _ => false) = true := by rw [Try.underlying112]
theorem keyLaw112 : WideMaps.KeyLaw Try.prog 112 := deep_law_laid laidOut (m := 2) (by omega) row112 (by kernel_rfl) wide112
theorem law112 : Maps.Keyed Try.prog 112 := Maps.Keyed.of_law keyLaw112
theorem cells112 : Try.prog.cellsOf 112 = 2 := by kernel_rfl
theorem cells9 : Try.prog.cellsOf 9 = 1 := by kernel_rfl
theorem keyType112 : Try.prog.keyType 112 = true := by kernel_rfl

def kvS (x y : ByteArray) : Value := .agg #[.string x, .string y]
def klS (x y : ByteArray) : Lit := .string (keyBytes [.string x.data.toList, .string y.data.toList])
def wfS (x y : ByteArray) : Prop := x.size ≤ maxLen ∧ y.size ≤ maxLen

theorem lits_str (n : Nat) (v : Value) : Try.prog.keyLits (n + 1) 9 [v] = match v with | .string s => if s.size ≤ maxLen then some [.string s.data.toList] else none | _ => none := by
  unfold Program.keyLits
  rw [Try.underlying9]
  cases v <;> rfl
theorem lits_key112 (n : Nat) (a b : Value) : Try.prog.keyLits (n + 2) 112 [a, b] = (Try.prog.keyLits (n + 1) 9 [a]).bind fun x => (Try.prog.keyLits (n + 1) 9 [b]).bind fun y => some (x ++ y) := by
  conv => lhs; unfold Program.keyLits; rw [Try.underlying112]
  simp only [cells112]
  simp [cells9]
  cases Try.prog.keyLits (n + 1) 9 [a] <;> cases Try.prog.keyLits (n + 1) 9 [b] <;> simp
theorem lits_str_inv {n : Nat} {v : Value} {x : List Lit} (h : Try.prog.keyLits (n + 1) 9 [v] = some x) : ∃ s, v = .string s ∧ s.size ≤ maxLen ∧ x = [.string s.data.toList] := by
  rw [lits_str] at h
  split at h
  · split at h
    · rename_i h1
      cases h
      exact ⟨_, rfl, h1, rfl⟩
    · cases h
  · cases h
theorem keyOf_agg112 (a b : Value) : keyOf Try.prog 112 (.agg #[a, b]) = (Try.prog.keyLits (Try.prog.types.size + 1) 112 [a, b]).map fun ls => .string (keyBytes ls) := by
  unfold keyOf
  rw [Try.underlying112]
  simp only [keyType112, Value.formed, Try.underlying112, cells112]
  rfl

theorem keyS_mk {x y : ByteArray} (h : wfS x y) : keyOf Try.prog 112 (kvS x y) = some (klS x y) := by
  obtain ⟨n, hn⟩ := size_types
  rw [kvS, keyOf_agg112, hn, lits_key112, lits_str, lits_str]
  simp [h.1, h.2, klS]

theorem keyS_inv {v : Value} {l : Lit} (h : keyOf Try.prog 112 v = some l) : ∃ x y, wfS x y ∧ v = kvS x y ∧ l = klS x y := by
  obtain ⟨n, hn⟩ := size_types
  have hf : v.formed Try.prog 112 = true := by
    cases hv : v.formed Try.prog 112
    · unfold keyOf at h
      rw [Try.underlying112] at h
      simp [hv] at h
    · rfl
  cases v <;> simp [Value.formed, Try.underlying112, cells112] at hf
  rename_i cs
  obtain ⟨l0⟩ := cs
  match l0, hf with
  | [a, b], _ =>
    have h2 := h
    rw [show (⟨[a, b]⟩ : Array Value) = #[a, b] from rfl, keyOf_agg112, hn, lits_key112] at h2
    cases e1 : Try.prog.keyLits (n + 1) 9 [a] with
    | none => simp [e1] at h2
    | some x =>
      cases e2 : Try.prog.keyLits (n + 1) 9 [b] with
      | none => simp [e1, e2] at h2
      | some y =>
        obtain ⟨o, rfl, w1, rfl⟩ := lits_str_inv e1
        obtain ⟨q, rfl, w2, rfl⟩ := lits_str_inv e2
        simp [e1, e2] at h2
        exact ⟨o, q, ⟨w1, w2⟩, rfl, h2.symm⟩

theorem klS_inj {x y x' y' : ByteArray} (h : wfS x y) (h' : wfS x' y') (e : klS x y = klS x' y') : x = x' ∧ y = y' := by
  have h1 := law112.inj (keyS_mk h) (e ▸ keyS_mk h')
  simp [kvS] at h1
  exact h1
end Go.Proofs.Qxb6612720a
