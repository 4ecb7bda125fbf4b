/-
  DERIVED. THE PLAIN LAWS beneath the two laws on (Pos).String: decimal numerals, colons; no Go in sight.
-/
import Derived.Lib.ItoaNum
import Derived.Lib.ItoaLen
namespace Go.Proofs.Qxb6604459aDoor
open Go.Lib

/-- What a row of digits is worth. -/
def val (l : List UInt8) : Nat := l.foldl (fun a c => a * 10 + (c.toNat - 48)) 0

theorem val_snoc (l : List UInt8) (c : UInt8) : val (l ++ [c]) = val l * 10 + (c.toNat - 48) := by simp [val]

theorem dig_toNat {d : Nat} (h : d < 10) : (UInt8.ofNat (48 + d)).toNat = 48 + d := by
  rw [UInt8.toNat_ofNat']
  omega

theorem decDigits_big {u : Nat} (h : ¬ u < 10) : decDigits u = decDigits (u / 10) ++ [UInt8.ofNat (48 + u % 10)] := by
  conv => lhs; rw [decDigits]
  rw [dif_neg h]

theorem val_decDigits (u : Nat) : val (decDigits u) = u := by
  induction u using Nat.strongRecOn with
  | _ u ih =>
    by_cases h : u < 10
    · rw [decDigits_one h]
      show 0 * 10 + ((UInt8.ofNat (48 + u)).toNat - 48) = u
      rw [dig_toNat h]
      omega
    · rw [decDigits_big h, val_snoc, ih (u / 10) (by omega), dig_toNat (by omega)]
      omega

theorem mem_decDigits {u : Nat} {c : UInt8} (hc : c ∈ decDigits u) : 48 ≤ c.toNat ∧ c.toNat ≤ 57 := by
  induction u using Nat.strongRecOn with
  | _ u ih =>
    by_cases h : u < 10
    · rw [decDigits_one h] at hc
      rw [List.mem_singleton.1 hc, dig_toNat h]
      omega
    · rw [decDigits_big h] at hc
      rcases List.mem_append.1 hc with hc | hc
      · exact ih (u / 10) (by omega) hc
      · rw [List.mem_singleton.1 hc, dig_toNat (Nat.mod_lt _ (by omega))]
        omega

theorem decDigits_inj {a b : Nat} (h : decDigits a = decDigits b) : a = b := by
  have := congrArg val h
  rwa [val_decDigits, val_decDigits] at this

theorem mem_itoa {n : Int} {c : UInt8} (hc : c ∈ itoa n) : c = 45 ∨ (48 ≤ c.toNat ∧ c.toNat ≤ 57) := by
  unfold itoa at hc
  split at hc
  · rcases List.mem_cons.1 hc with h | h
    · exact Or.inl h
    · exact Or.inr (mem_decDigits h)
  · exact Or.inr (mem_decDigits hc)

theorem colon_itoa (n : Int) : (58 : UInt8) ∉ itoa n := by
  intro h
  rcases mem_itoa h with h | h
  · exact absurd h (by decide)
  · have : (58 : UInt8).toNat = 58 := rfl
    omega

theorem decDigits_ne_nil (u : Nat) : decDigits u ≠ [] := by
  intro h
  have := decDigits_length u
  rw [h] at this
  have := nDigits_pos u
  simp at *
  omega

theorem itoa_inj {a b : Int} (h : itoa a = itoa b) : a = b := by
  have no : ∀ (x : List UInt8) (u : Nat), 45 :: x ≠ decDigits u := fun x u e => by
    have h1 : (45 : UInt8) ∈ decDigits u := by rw [← e]; simp
    have := mem_decDigits h1
    have : (45 : UInt8).toNat = 45 := rfl
    omega
  unfold itoa at h
  split at h <;> split at h
  · have := decDigits_inj (List.cons.inj h).2
    omega
  · exact absurd h (no _ _)
  · exact absurd h.symm (no _ _)
  · have := decDigits_inj h
    omega

/-- The last colon parts a text in one way. -/
theorem split_colon {x y a b : List UInt8} (ha : (58 : UInt8) ∉ a) (hb : (58 : UInt8) ∉ b) (h : x ++ 58 :: a = y ++ 58 :: b) : x = y ∧ a = b := by
  rcases List.append_eq_append_iff.1 h with ⟨c, h1, h2⟩ | ⟨c, h1, h2⟩
  · cases c with
    | nil => simp at h1 h2; exact ⟨h1.symm, h2⟩
    | cons d r =>
      simp only [List.cons_append, List.cons.injEq] at h2
      exact absurd (by rw [h2.2]; simp : (58 : UInt8) ∈ a) ha
  · cases c with
    | nil => simp at h1 h2; exact ⟨h1, h2.symm⟩
    | cons d r =>
      simp only [List.cons_append, List.cons.injEq] at h2
      exact absurd (by rw [h2.2]; simp : (58 : UInt8) ∈ b) hb

/-- FILE:LINE:COL, as bytes. -/
def posS (f : List UInt8) (l c : Int) : List UInt8 := (f ++ 58 :: itoa l) ++ 58 :: itoa c

theorem posS_inj {f f' : List UInt8} {l l' c c' : Int} (h : posS f l c = posS f' l' c') : f = f' ∧ l = l' ∧ c = c' := by
  obtain ⟨h1, h2⟩ := split_colon (colon_itoa c) (colon_itoa c') h
  obtain ⟨h3, h4⟩ := split_colon (colon_itoa l) (colon_itoa l') h1
  exact ⟨h3, itoa_inj h4, itoa_inj h2⟩

theorem posS_length (f : List UInt8) (l c : Int) (h1 : -9223372036854775808 ≤ l) (h2 : l ≤ 9223372036854775807) (h3 : -9223372036854775808 ≤ c) (h4 : c ≤ 9223372036854775807) : (posS f l c).length ≤ f.length + 44 := by
  have e1 := itoa_length_le l h1 h2
  have e2 := itoa_length_le c h3 h4
  simp [posS]
  omega

end Go.Proofs.Qxb6604459aDoor
