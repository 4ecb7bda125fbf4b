/-
  DERIVED. THE PLAIN LAW beneath FnLoseOrderFree: no Go in sight. A table of give-ups grows; each key given up strikes the waiting lists that it covers and gives up their waiters; the outcome is the least table that is closed, so the order of two losses does not matter.
-/
namespace Go.Proofs.Qxb6602500a

/-- Does the give-up (f, l) give up broadcast s? -/
def hasB (f l s : Int) : Bool := (f != 0) && (decide (f ≤ s) && ((l == 0) || decide (s ≤ l)))

/-- A table grows at a place. -/
def le1 (g g' : Int × Int) : Prop := g = g' ∨ (g'.2 = 0 ∧ g'.1 ≠ 0 ∧ (g.1 ≠ 0 → g'.1 ≤ g.1))

def cov (L : Nat → Int × Int) (k : Nat × Int) : Bool := hasB (L k.1).1 (L k.1).2 k.2

def newG (g : Int × Int) (s : Int) : Int × Int := (if g.1 = 0 then s else min s g.1, 0)

def upd (L : Nat → Int × Int) (p : Nat) (g : Int × Int) : Nat → Int × Int := fun q => if q = p then g else L q

/-- T holds at least L, covers k, and is closed under the waiters of M. -/
def Cl (L : Nat → Int × Int) (M : Nat × Int → Option (List (Nat × Int))) (k : Nat × Int) (T : Nat → Int × Int) : Prop :=
  (∀ p, le1 (L p) (T p)) ∧ cov T k = true ∧ ∀ a ks, M a = some ks → cov T a = true → ∀ g ∈ ks, cov T g = true

def strike (T : Nat → Int × Int) (M : Nat × Int → Option (List (Nat × Int))) : Nat × Int → Option (List (Nat × Int)) := fun a => if cov T a = true then none else M a

/-- What one loss does. -/
def LoseRel (L : Nat → Int × Int) (M : Nat × Int → Option (List (Nat × Int))) (k : Nat × Int) (L' : Nat → Int × Int) (M' : Nat × Int → Option (List (Nat × Int))) : Prop :=
  (cov L k = true ∧ L' = L ∧ M' = M) ∨ (cov L k = false ∧ Cl L M k L' ∧ (∀ T, Cl L M k T → ∀ p, le1 (L' p) (T p)) ∧ M' = strike L' M)

theorem le1_refl (g : Int × Int) : le1 g g := Or.inl rfl

theorem le1_trans {a b c : Int × Int} (h : le1 a b) (k : le1 b c) : le1 a c := by
  rcases h with rfl | ⟨h1, h2, h3⟩
  · exact k
  · rcases k with rfl | ⟨k1, k2, k3⟩
    · exact Or.inr ⟨h1, h2, h3⟩
    · exact Or.inr ⟨k1, k2, fun h => Int.le_trans (k3 h2) (h3 h)⟩

theorem le1_anti {a b : Int × Int} (h : le1 a b) (k : le1 b a) : a = b := by
  rcases h with rfl | ⟨h1, h2, h3⟩
  · rfl
  · rcases k with rfl | ⟨k1, k2, k3⟩
    · rfl
    · exact Prod.ext (Int.le_antisymm (k3 h2) (h3 k2)) (by rw [h1, k1])

theorem hasB_iff (f l s : Int) : hasB f l s = true ↔ f ≠ 0 ∧ f ≤ s ∧ (l = 0 ∨ s ≤ l) := by
  simp [hasB]

theorem cov_mono {L T : Nat → Int × Int} (h : ∀ p, le1 (L p) (T p)) {k : Nat × Int} (hk : cov L k = true) : cov T k = true := by
  unfold cov at hk ⊢
  rcases h k.1 with e | ⟨h1, h2, h3⟩
  · rw [← e]; exact hk
  · rw [hasB_iff] at hk ⊢
    have := h3 hk.1
    exact ⟨h2, by omega, Or.inl h1⟩

theorem upd_same (L : Nat → Int × Int) (p : Nat) (g : Int × Int) : upd L p g p = g := by simp [upd]
theorem upd_other (L : Nat → Int × Int) {p q : Nat} (g : Int × Int) (h : q ≠ p) : upd L p g q = L q := by simp [upd, h]

theorem newG_grows (L : Nat → Int × Int) (g : Nat × Int) (hs : g.2 ≠ 0) : ∀ p, le1 (L p) (upd L g.1 (newG (L g.1) g.2) p) := by
  intro p
  by_cases h : p = g.1
  · subst h
    rw [upd_same]
    refine Or.inr ⟨rfl, ?_, fun h => ?_⟩
    · simp only [newG]
      split
      · exact hs
      · rename_i h0
        rcases Int.min_def g.2 (L g.1).1 ▸ (by split <;> simp : (if g.2 ≤ (L g.1).1 then g.2 else (L g.1).1) = g.2 ∨ (if g.2 ≤ (L g.1).1 then g.2 else (L g.1).1) = (L g.1).1) with e | e
        · rw [e]; exact hs
        · rw [e]; exact h0
    · simp only [newG, if_neg h]
      exact Int.min_le_right _ _
  · rw [upd_other _ _ h]
    exact le1_refl _

theorem newG_covers (L : Nat → Int × Int) (g : Nat × Int) (hs : g.2 ≠ 0) : cov (upd L g.1 (newG (L g.1) g.2)) g = true := by
  have h1 := newG_grows L g hs g.1
  rw [upd_same] at h1
  unfold cov
  rw [upd_same, hasB_iff]
  have h2 : (newG (L g.1) g.2).1 ≤ g.2 := by
    simp only [newG]
    split
    · exact Int.le_refl _
    · exact Int.min_le_left _ _
  refine ⟨?_, h2, Or.inl rfl⟩
  simp only [newG]
  split
  · exact hs
  · rename_i h0
    by_cases h : g.2 ≤ (L g.1).1
    · rw [Int.min_eq_left h]; exact hs
    · rw [Int.min_eq_right (by omega)]; exact h0

/-- The step is the least that covers g. -/
theorem newG_least {L T : Nat → Int × Int} {g : Nat × Int} (hn : cov L g = false) (hL : ∀ p, le1 (L p) (T p)) (hT : cov T g = true) : ∀ p, le1 (upd L g.1 (newG (L g.1) g.2) p) (T p) := by
  intro p
  by_cases h : p = g.1
  · subst h
    rw [upd_same]
    rcases hL g.1 with e | ⟨h1, h2, h3⟩
    · exfalso
      unfold cov at hn hT
      rw [e, hT] at hn
      cases hn
    · refine Or.inr ⟨h1, h2, fun _ => ?_⟩
      unfold cov at hT
      rw [hasB_iff] at hT
      simp only [newG]
      split
      · exact hT.2.1
      · rename_i h0
        exact Int.le_min.2 ⟨hT.2.1, h3 h0⟩
  · rw [upd_other _ _ h]
    exact hL p

/-! ### The loop of one loss -/

/-- What holds at the head of every round: L, M, todo: the table, the waiting lists, what is still to be given up. -/
structure OInv (L0 : Nat → Int × Int) (M0 : Nat × Int → Option (List (Nat × Int))) (k : Nat × Int) (L : Nat → Int × Int) (M : Nat × Int → Option (List (Nat × Int))) (todo : List (Nat × Int)) : Prop where
  grows : ∀ p, le1 (L0 p) (L p)
  least : ∀ T, Cl L0 M0 k T → (∀ p, le1 (L p) (T p)) ∧ ∀ g ∈ todo, cov T g = true
  at_ : (L = L0 ∧ M = M0 ∧ todo = [k]) ∨ (cov L0 k = true ∧ L = L0 ∧ M = M0 ∧ todo = []) ∨
    (cov L0 k = false ∧ cov L k = true ∧ M = strike L M0 ∧ ∀ a ks, M0 a = some ks → cov L a = true → ∀ g ∈ ks, cov L g = true ∨ g ∈ todo)

theorem OInv.start (L0 : Nat → Int × Int) (M0 : Nat × Int → Option (List (Nat × Int))) (k : Nat × Int) : OInv L0 M0 k L0 M0 [k] :=
  ⟨fun _ => le1_refl _, fun T hT => ⟨hT.1, fun g hg => by simp at hg; subst hg; exact hT.2.1⟩, Or.inl ⟨rfl, rfl, rfl⟩⟩

theorem OInv.skip {L0 M0 k L M todo g} (h : OInv L0 M0 k L M (todo ++ [g])) (hg : cov L g = true) : OInv L0 M0 k L M todo := by
  refine ⟨h.grows, fun T hT => ⟨(h.least T hT).1, fun x hx => (h.least T hT).2 x (by simp [hx])⟩, ?_⟩
  rcases h.at_ with ⟨rfl, rfl, e⟩ | ⟨_, _, _, e⟩ | ⟨h1, h2, h3, h4⟩
  · have e2 : todo = [] ∧ g = k := by
      cases todo with
      | nil => simpa using e
      | cons a r => simp at e
    obtain ⟨rfl, rfl⟩ := e2
    exact Or.inr (Or.inl ⟨hg, rfl, rfl, rfl⟩)
  · simp at e
  · refine Or.inr (Or.inr ⟨h1, h2, h3, fun a ks ha hc x hx => ?_⟩)
    rcases h4 a ks ha hc x hx with h | h
    · exact Or.inl h
    · rcases List.mem_append.1 h with h | h
      · exact Or.inr h
      · simp at h; subst h; exact Or.inl hg

theorem strike_strike {L L1 : Nat → Int × Int} (h : ∀ p, le1 (L p) (L1 p)) (M : Nat × Int → Option (List (Nat × Int))) : strike L1 (strike L M) = strike L1 M := by
  funext a
  unfold strike
  by_cases h1 : cov L1 a = true
  · simp [h1]
  · have : ¬ cov L a = true := fun h2 => h1 (cov_mono h h2)
    simp [h1, this]

theorem OInv.take {L0 M0 k L M todo g} (h : OInv L0 M0 k L M (todo ++ [g])) (hs : g.2 ≠ 0) (hg : cov L g = false) {L1 : Nat → Int × Int} (hL1 : L1 = upd L g.1 (newG (L g.1) g.2)) {todo1 : List (Nat × Int)}
    (hold : ∀ x ∈ todo, x ∈ todo1) (hnew : ∀ a ks, M a = some ks → cov L1 a = true → ∀ x ∈ ks, x ∈ todo1) (honly : ∀ x ∈ todo1, x ∈ todo ∨ ∃ a ks, M a = some ks ∧ cov L1 a = true ∧ x ∈ ks) :
    OInv L0 M0 k L1 (strike L1 M) todo1 := by
  have hgr : ∀ p, le1 (L p) (L1 p) := hL1 ▸ newG_grows L g hs
  have hcg : cov L1 g = true := hL1 ▸ newG_covers L g hs
  have hM : ∀ a ks, M a = some ks → M0 a = some ks := by
    intro a ks ha
    rcases h.at_ with ⟨_, rfl, _⟩ | ⟨_, _, rfl, _⟩ | ⟨_, _, rfl, _⟩
    · exact ha
    · exact ha
    · unfold strike at ha
      split at ha
      · cases ha
      · exact ha
  have hle : ∀ T, Cl L0 M0 k T → ∀ p, le1 (L1 p) (T p) := fun T hT => by
    rw [hL1]
    exact newG_least hg (h.least T hT).1 ((h.least T hT).2 g (by simp))
  refine ⟨fun p => le1_trans (h.grows p) (hgr p), fun T hT => ⟨hle T hT, fun x hx => ?_⟩, Or.inr (Or.inr ?_)⟩
  · rcases honly x hx with h1 | ⟨a, ks, ha, hc, hx'⟩
    · exact (h.least T hT).2 x (by simp [h1])
    · exact hT.2.2 a ks (hM a ks ha) (cov_mono (hle T hT) hc) x hx'
  · rcases h.at_ with ⟨rfl, rfl, e⟩ | ⟨_, _, _, e⟩ | ⟨h1, h2, rfl, h4⟩
    · have e2 : todo = [] ∧ g = k := by
        cases todo with
        | nil => simpa using e
        | cons a r => simp at e
      obtain ⟨rfl, rfl⟩ := e2
      exact ⟨hg, hcg, rfl, fun a ks ha hc x hx => Or.inr (hnew a ks ha hc x hx)⟩
    · simp at e
    · refine ⟨h1, cov_mono hgr h2, strike_strike hgr M0, fun a ks ha hc x hx => ?_⟩
      by_cases hca : cov L a = true
      · rcases h4 a ks ha hca x hx with h5 | h5
        · exact Or.inl (cov_mono hgr h5)
        · rcases List.mem_append.1 h5 with h5 | h5
          · exact Or.inr (hold x h5)
          · simp at h5; subst h5; exact Or.inl hcg
      · exact Or.inr (hnew a ks (by simp [strike, hca, ha]) hc x hx)

theorem OInv.done {L0 M0 k L M} (h : OInv L0 M0 k L M []) : LoseRel L0 M0 k L M := by
  rcases h.at_ with ⟨_, _, e⟩ | ⟨h1, h2, h3, _⟩ | ⟨h1, h2, h3, h4⟩
  · simp at e
  · exact Or.inl ⟨h1, h2, h3⟩
  · refine Or.inr ⟨h1, ⟨h.grows, h2, fun a ks ha hc g hg => ?_⟩, fun T hT => (h.least T hT).1, h3⟩
    rcases h4 a ks ha hc g hg with h5 | h5
    · exact h5
    · simp at h5

/-! ### Two losses -/

theorem LoseRel.grows {L M k L' M'} (h : LoseRel L M k L' M') : (∀ p, le1 (L p) (L' p)) ∧ cov L' k = true := by
  rcases h with ⟨h1, rfl, _⟩ | ⟨_, h2, _⟩
  · exact ⟨fun _ => le1_refl _, h1⟩
  · exact ⟨h2.1, h2.2.1⟩

/-- T is the least closed table that covers both. -/
def Cl2 (L : Nat → Int × Int) (M : Nat × Int → Option (List (Nat × Int))) (a b : Nat × Int) (T : Nat → Int × Int) : Prop := Cl L M a T ∧ cov T b = true

/-- Where one of the two was not covered at the start: the outcome is the least closed table over both. -/
theorem two_losses {L M a b L1 M1 L2 M2} (h1 : LoseRel L M a L1 M1) (h2 : LoseRel L1 M1 b L2 M2) (hn : cov L a = false ∨ cov L b = false) :
    Cl2 L M a b L2 ∧ (∀ T, Cl2 L M a b T → ∀ p, le1 (L2 p) (T p)) ∧ M2 = strike L2 M := by
  rcases h1 with ⟨c1, rfl, rfl⟩ | ⟨c1, c2, c3, rfl⟩
  · rcases h2 with ⟨d1, _, _⟩ | ⟨d1, d2, d3, rfl⟩
    · rcases hn with h | h
      · rw [c1] at h; cases h
      · rw [d1] at h; cases h
    · exact ⟨⟨⟨d2.1, cov_mono d2.1 c1, d2.2.2⟩, d2.2.1⟩, fun T hT => d3 T ⟨hT.1.1, hT.2, hT.1.2.2⟩, rfl⟩
  · rcases h2 with ⟨d1, rfl, rfl⟩ | ⟨d1, d2, d3, rfl⟩
    · exact ⟨⟨c2, d1⟩, fun T hT => c3 T hT.1, rfl⟩
    · refine ⟨⟨⟨fun p => le1_trans (c2.1 p) (d2.1 p), cov_mono d2.1 c2.2.1, fun x ks hx hc g hg => ?_⟩, d2.2.1⟩, fun T hT => ?_, strike_strike d2.1 M⟩
      · by_cases hx1 : cov L1 x = true
        · exact cov_mono d2.1 (c2.2.2 x ks hx hx1 g hg)
        · exact d2.2.2 x ks (by simp [strike, hx1, hx]) hc g hg
      · refine d3 T ⟨c3 T hT.1, hT.2, fun x ks hx hc g hg => hT.1.2.2 x ks ?_ hc g hg⟩
        unfold strike at hx
        split at hx
        · cases hx
        · exact hx

/-- ████ THE PLAIN LAW: two losses, in either order, come to one. ████ -/
theorem lose_order_free {L M a b L1 M1 L2 M2 L3 M3 L4 M4} (h1 : LoseRel L M a L1 M1) (h2 : LoseRel L1 M1 b L2 M2) (h3 : LoseRel L M b L3 M3) (h4 : LoseRel L3 M3 a L4 M4) : L2 = L4 ∧ M2 = M4 := by
  by_cases hn : cov L a = false ∨ cov L b = false
  · obtain ⟨e1, e2, e3⟩ := two_losses h1 h2 hn
    obtain ⟨f1, f2, f3⟩ := two_losses h3 h4 hn.symm
    have hL : L2 = L4 := by
      funext p
      exact le1_anti (e2 L4 ⟨⟨f1.1.1, f1.2, f1.1.2.2⟩, f1.1.2.1⟩ p) (f2 L2 ⟨⟨e1.1.1, e1.2, e1.1.2.2⟩, e1.1.2.1⟩ p)
    exact ⟨hL, by rw [e3, f3, hL]⟩
  · have ha : cov L a = true := by cases h : cov L a <;> simp_all
    have hb : cov L b = true := by cases h : cov L b <;> simp_all
    rcases h1 with ⟨_, rfl, rfl⟩ | ⟨c1, _⟩
    · rcases h2 with ⟨_, rfl, rfl⟩ | ⟨c1, _⟩
      · rcases h3 with ⟨_, rfl, rfl⟩ | ⟨c1, _⟩
        · rcases h4 with ⟨_, rfl, rfl⟩ | ⟨c1, _⟩
          · exact ⟨rfl, rfl⟩
          · rw [ha] at c1; cases c1
        · rw [hb] at c1; cases c1
      · rw [hb] at c1; cases c1
    · rw [ha] at c1; cases c1

end Go.Proofs.Qxb6602500a
