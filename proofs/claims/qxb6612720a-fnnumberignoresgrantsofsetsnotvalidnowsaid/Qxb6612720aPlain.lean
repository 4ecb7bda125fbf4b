/-
  DERIVED. THE PLAIN LAW beneath 'number': grants gathered once each, in whatever order. No Go in sight.
-/
namespace Go.Proofs.Qxb6612720a

/-- One grant more, if it is good and new. -/
def step (ok : Int × Int → Bool) (S : List (Int × Int)) (x : Int × Int) : List (Int × Int) := if ok x = true ∧ x ∉ S then S ++ [x] else S

/-- All grants of a row of grants, gathered. -/
def gather (ok : Int × Int → Bool) (S xs : List (Int × Int)) : List (Int × Int) := xs.foldl (step ok) S

theorem step_nodup {ok : Int × Int → Bool} {S : List (Int × Int)} {x : Int × Int} (h : S.Nodup) : (step ok S x).Nodup := by
  unfold step
  split
  · rename_i hx
    rw [List.nodup_append]
    exact ⟨h, by simp, fun a ha b hb => by rw [List.mem_singleton.1 hb]; rintro rfl; exact hx.2 ha⟩
  · exact h

theorem mem_step {ok : Int × Int → Bool} {S : List (Int × Int)} {x y : Int × Int} : y ∈ step ok S x ↔ y ∈ S ∨ (y = x ∧ ok x = true) := by
  unfold step
  split
  · rename_i hx
    simp [hx.1]
  · rename_i hx
    constructor
    · exact Or.inl
    · rintro (h | ⟨rfl, h⟩)
      · exact h
      · by_cases hm : y ∈ S
        · exact hm
        · exact absurd ⟨h, hm⟩ hx

theorem gather_nodup {ok : Int × Int → Bool} (xs : List (Int × Int)) : ∀ {S : List (Int × Int)}, S.Nodup → (gather ok S xs).Nodup := by
  induction xs with
  | nil => intro S h; exact h
  | cons x xs ih => intro S h; exact ih (step_nodup h)

theorem mem_gather {ok : Int × Int → Bool} (xs : List (Int × Int)) : ∀ {S : List (Int × Int)} {y : Int × Int}, y ∈ gather ok S xs ↔ y ∈ S ∨ (y ∈ xs ∧ ok y = true) := by
  induction xs with
  | nil => intro S y; simp [gather]
  | cons x xs ih =>
    intro S y
    show y ∈ gather ok (step ok S x) xs ↔ _
    rw [ih, mem_step]
    constructor
    · rintro ((h | ⟨rfl, h⟩) | ⟨h1, h2⟩)
      · exact Or.inl h
      · exact Or.inr ⟨by simp, h⟩
      · exact Or.inr ⟨by simp [h1], h2⟩
    · rintro (h | ⟨h1, h2⟩)
      · exact Or.inl (Or.inl h)
      · rcases List.mem_cons.1 h1 with rfl | h1
        · exact Or.inl (Or.inr ⟨rfl, h2⟩)
        · exact Or.inr ⟨h1, h2⟩

theorem gather_append {ok : Int × Int → Bool} (S xs ys : List (Int × Int)) : gather ok S (xs ++ ys) = gather ok (gather ok S xs) ys := by
  simp [gather]

theorem gather_le {ok : Int × Int → Bool} (xs : List (Int × Int)) : ∀ (S : List (Int × Int)), (gather ok S xs).length ≤ S.length + xs.length := by
  induction xs with
  | nil => intro S; exact Nat.le_refl _
  | cons x xs ih =>
    intro S
    have h1 := ih (step ok S x)
    have h2 : (step ok S x).length ≤ S.length + 1 := by
      unfold step
      split <;> simp
    show (gather ok (step ok S x) xs).length ≤ _
    simp only [List.length_cons]
    omega

/-- Two rows without doubles that hold the same are of one length. -/
theorem length_same {R S : List (Int × Int)} (h1 : R.Nodup) (h2 : S.Nodup) (h : ∀ x, x ∈ R ↔ x ∈ S) : R.length = S.length :=
  ((List.perm_ext_iff_of_nodup h1 h2).2 h).length_eq
end Go.Proofs.Qxb6612720a
