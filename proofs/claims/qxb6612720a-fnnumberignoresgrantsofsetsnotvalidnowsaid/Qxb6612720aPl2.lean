import Derived.Test.Qxb6612720aCp2
namespace Go.Proofs.Qxb6612720a
open Go.RowKit
set_option maxRecDepth 100000

theorem Good.of_fits {ws : List (Int × Int)} {ls : List (ByteArray × ByteArray × List (Int × Int))} {us : List (ByteArray × List (Int × Int))} (F : Fits ws.length ls us) (h1 : ∀ k (h : k < ls.length), ∀ r ∈ (ls[k]).2.2, wfI r.1 r.2) (h2 : ∀ k (h : k < us.length), ∀ r ∈ (us[k]).2, wfI r.1 r.2) : Good ws ls us := by
  refine ⟨F.s, F.l, F.u, fun k hk => ⟨⟨?_, ?_⟩, (F.l1 k hk).2.2, h1 k hk⟩, fun k hk => ⟨?_, (F.u1 k hk).2, h2 k hk⟩, Nat.le_trans F.lt (by omega), Nat.le_trans F.ut (by omega), F.ld, F.ud⟩
  · have := (F.l1 k hk).1; unfold maxLen; omega
  · have := (F.l1 k hk).2.1; unfold maxLen; omega
  · have := (F.u1 k hk).1; unfold maxLen; omega

theorem flat_set {α : Type} (f : α → List (Int × Int)) (y : α) : ∀ (xs : List α) (k : Nat) (hk : k < xs.length), ((xs.set k y).flatMap f).length + (f xs[k]).length = (xs.flatMap f).length + (f y).length := by
  intro xs
  induction xs with
  | nil => intro k hk; simp at hk
  | cons x xs ih =>
    intro k hk
    cases k with
    | zero =>
      simp only [List.set_cons_zero, List.flatMap_cons, List.length_append, List.getElem_cons_zero]
      omega
    | succ k =>
      have := ih k (by simpa using hk)
      simp only [List.set_cons_succ, List.flatMap_cons, List.length_append, List.getElem_cons_succ]
      omega

/-- A grant put in at place p. -/
def putIn (rs : List (Int × Int)) (p : Nat) (x : Int × Int) : List (Int × Int) := rs.take p ++ ([x] ++ rs.drop p)
theorem mem_putIn {rs : List (Int × Int)} {p : Nat} {x y : Int × Int} : y ∈ putIn rs p x ↔ y = x ∨ y ∈ rs := by
  unfold putIn
  rw [List.mem_append, List.mem_append, List.mem_singleton]
  constructor
  · rintro (h | h | h)
    · exact Or.inr (List.mem_of_mem_take h)
    · exact Or.inl h
    · exact Or.inr (List.mem_of_mem_drop h)
  · rintro (h | h)
    · exact Or.inr (Or.inl h)
    · rw [← List.take_append_drop p rs, List.mem_append] at h
      rcases h with h | h
      · exact Or.inl h
      · exact Or.inr (Or.inr h)
theorem length_putIn {rs : List (Int × Int)} {p : Nat} {x : Int × Int} (hp : p ≤ rs.length) : (putIn rs p x).length = rs.length + 1 := by
  unfold putIn
  simp
  omega

theorem Good.setL {ws : List (Int × Int)} {ls : List (ByteArray × ByteArray × List (Int × Int))} {us : List (ByteArray × List (Int × Int))} (F : Fits ws.length ls us) (G : Good ws ls us) {k p : Nat} (hk : k < ls.length) {x : Int × Int} (hx : inN ws.length x = true) (hw : wfI x.1 x.2) (hp : p ≤ (ls[k]).2.2.length) : Good ws (ls.set k ((ls[k]).1, (ls[k]).2.1, putIn (ls[k]).2.2 p x)) us := by
  refine ⟨G.s, by simpa using G.l, G.u, fun i hi => ?_, G.u1, ?_, G.ut, fun i j hi hj hji => ?_, G.ud⟩
  · have hi' : i < ls.length := by simpa using hi
    by_cases e : k = i
    · subst e
      rw [List.getElem_set_self]
      refine ⟨(G.l1 k hk).1, List.all_eq_true.2 (fun y hy => ?_), fun y hy => ?_⟩
      · rcases mem_putIn.1 hy with rfl | hy
        · exact hx
        · exact List.all_eq_true.1 (G.l1 k hk).2.1 y hy
      · rcases mem_putIn.1 hy with rfl | hy
        · exact hw
        · exact (G.l1 k hk).2.2 y hy
    · rw [List.getElem_set_ne e]
      exact G.l1 i hi'
  · have h1 := flat_set (·.2.2) ((ls[k]).1, (ls[k]).2.1, putIn (ls[k]).2.2 p x) ls k hk
    have h2 := length_putIn (x := x) hp
    have h3 := F.lt
    simp only at h1
    omega
  · have hi' : i < ls.length := by simpa using hi
    have hj' : j < ls.length := by simpa using hj
    have e1 : ∀ i (hi : i < (ls.set k ((ls[k]).1, (ls[k]).2.1, putIn (ls[k]).2.2 p x)).length) (hi' : i < ls.length), ((ls.set k ((ls[k]).1, (ls[k]).2.1, putIn (ls[k]).2.2 p x))[i]).1 = (ls[i]).1 ∧ ((ls.set k ((ls[k]).1, (ls[k]).2.1, putIn (ls[k]).2.2 p x))[i]).2.1 = (ls[i]).2.1 := by
      intro i hi hi'
      by_cases e : k = i
      · subst e; rw [List.getElem_set_self]; exact ⟨rfl, rfl⟩
      · rw [List.getElem_set_ne e]; exact ⟨rfl, rfl⟩
    rw [(e1 i hi hi').1, (e1 i hi hi').2, (e1 j hj hj').1, (e1 j hj hj').2]
    exact G.ld i j hi' hj' hji
theorem Good.setU {ws : List (Int × Int)} {ls : List (ByteArray × ByteArray × List (Int × Int))} {us : List (ByteArray × List (Int × Int))} (F : Fits ws.length ls us) (G : Good ws ls us) {k p : Nat} (hk : k < us.length) {x : Int × Int} (hx : inN ws.length x = true) (hw : wfI x.1 x.2) (hp : p ≤ (us[k]).2.length) : Good ws ls (us.set k ((us[k]).1, putIn (us[k]).2 p x)) := by
  refine ⟨G.s, G.l, by simpa using G.u, G.l1, fun i hi => ?_, G.lt, ?_, G.ld, fun i j hi hj hji => ?_⟩
  · have hi' : i < us.length := by simpa using hi
    by_cases e : k = i
    · subst e
      rw [List.getElem_set_self]
      refine ⟨(G.u1 k hk).1, List.all_eq_true.2 (fun y hy => ?_), fun y hy => ?_⟩
      · rcases mem_putIn.1 hy with rfl | hy
        · exact hx
        · exact List.all_eq_true.1 (G.u1 k hk).2.1 y hy
      · rcases mem_putIn.1 hy with rfl | hy
        · exact hw
        · exact (G.u1 k hk).2.2 y hy
    · rw [List.getElem_set_ne e]
      exact G.u1 i hi'
  · have h1 := flat_set (·.2) ((us[k]).1, putIn (us[k]).2 p x) us k hk
    have h2 := length_putIn (x := x) hp
    have h3 := F.ut
    simp only at h1
    omega
  · have hi' : i < us.length := by simpa using hi
    have hj' : j < us.length := by simpa using hj
    have e1 : ∀ i (hi : i < (us.set k ((us[k]).1, putIn (us[k]).2 p x)).length) (hi' : i < us.length), ((us.set k ((us[k]).1, putIn (us[k]).2 p x))[i]).1 = (us[i]).1 := by
      intro i hi hi'
      by_cases e : k = i
      · subst e; rw [List.getElem_set_self]
      · rw [List.getElem_set_ne e]
    rw [e1 i hi hi', e1 j hj hj']
    exact G.ud i j hi' hj' hji

/-- Two rows of entries hold the same good grants. -/
def EqL (ok : Int × Int → Bool) (ls ls2 : List (ByteArray × ByteArray × List (Int × Int))) : Prop := ls2.length = ls.length ∧ ∀ i (h : i < ls.length) (h' : i < ls2.length), ∀ x, ok x = true → (x ∈ (ls[i]).2.2 ↔ x ∈ (ls2[i]).2.2)
def EqU (ok : Int × Int → Bool) (us us2 : List (ByteArray × List (Int × Int))) : Prop := us2.length = us.length ∧ ∀ i (h : i < us.length) (h' : i < us2.length), ∀ x, ok x = true → (x ∈ (us[i]).2 ↔ x ∈ (us2[i]).2)

theorem EqL.refl (ok : Int × Int → Bool) (ls : List (ByteArray × ByteArray × List (Int × Int))) : EqL ok ls ls := ⟨rfl, fun _ _ _ _ _ => Iff.rfl⟩
theorem EqU.refl (ok : Int × Int → Bool) (us : List (ByteArray × List (Int × Int))) : EqU ok us us := ⟨rfl, fun _ _ _ _ _ => Iff.rfl⟩
theorem EqL.set {ok : Int × Int → Bool} {ls : List (ByteArray × ByteArray × List (Int × Int))} {k p : Nat} (hk : k < ls.length) {x : Int × Int} (hx : ok x = false) : EqL ok ls (ls.set k ((ls[k]).1, (ls[k]).2.1, putIn (ls[k]).2.2 p x)) := by
  refine ⟨by simp, fun i h h' y hy => ?_⟩
  by_cases e : k = i
  · subst e
    rw [List.getElem_set_self, mem_putIn]
    constructor
    · exact Or.inr
    · rintro (rfl | h)
      · rw [hx] at hy; cases hy
      · exact h
  · rw [List.getElem_set_ne e]
theorem EqU.set {ok : Int × Int → Bool} {us : List (ByteArray × List (Int × Int))} {k p : Nat} (hk : k < us.length) {x : Int × Int} (hx : ok x = false) : EqU ok us (us.set k ((us[k]).1, putIn (us[k]).2 p x)) := by
  refine ⟨by simp, fun i h h' y hy => ?_⟩
  by_cases e : k = i
  · subst e
    rw [List.getElem_set_self, mem_putIn]
    constructor
    · exact Or.inr
    · rintro (rfl | h)
      · rw [hx] at hy; cases hy
      · exact h
  · rw [List.getElem_set_ne e]

/-- Which grants are numbered. -/
def Mem (ok : Int × Int → Bool) (ls : List (ByteArray × ByteArray × List (Int × Int))) (us : List (ByteArray × List (Int × Int))) (R : List (Int × Int)) : Prop := ∀ x, x ∈ R ↔ ((∃ l ∈ ls, x ∈ l.2.2) ∨ (∃ l ∈ us, x ∈ l.2)) ∧ ok x = true

theorem mem_same {ok : Int × Int → Bool} {ls ls2 : List (ByteArray × ByteArray × List (Int × Int))} {us us2 : List (ByteArray × List (Int × Int))} {R1 R2 : List (Int × Int)} (h1 : Mem ok ls us R1) (h2 : Mem ok ls2 us2 R2) (hl : EqL ok ls ls2) (hu : EqU ok us us2) : ∀ x, x ∈ R1 ↔ x ∈ R2 := by
  intro x
  rw [h1 x, h2 x]
  constructor
  · rintro ⟨⟨l, hm, hx⟩ | ⟨l, hm, hx⟩, ho⟩
    · obtain ⟨i, hi, rfl⟩ := List.getElem_of_mem hm
      have hi2 : i < ls2.length := by rw [hl.1]; exact hi
      exact ⟨Or.inl ⟨_, List.getElem_mem hi2, (hl.2 i hi hi2 x ho).1 hx⟩, ho⟩
    · obtain ⟨i, hi, rfl⟩ := List.getElem_of_mem hm
      have hi2 : i < us2.length := by rw [hu.1]; exact hi
      exact ⟨Or.inr ⟨_, List.getElem_mem hi2, (hu.2 i hi hi2 x ho).1 hx⟩, ho⟩
  · rintro ⟨⟨l, hm, hx⟩ | ⟨l, hm, hx⟩, ho⟩
    · obtain ⟨i, hi, rfl⟩ := List.getElem_of_mem hm
      have hi2 : i < ls.length := by rw [← hl.1]; exact hi
      exact ⟨Or.inl ⟨_, List.getElem_mem hi2, (hl.2 i hi2 hi x ho).2 hx⟩, ho⟩
    · obtain ⟨i, hi, rfl⟩ := List.getElem_of_mem hm
      have hi2 : i < us.length := by rw [← hu.1]; exact hi
      exact ⟨Or.inr ⟨_, List.getElem_mem hi2, (hu.2 i hi2 hi x ho).2 hx⟩, ho⟩

theorem gather_same {ok : Int × Int → Bool} {ls : List (ByteArray × ByteArray × List (Int × Int))} {us : List (ByteArray × List (Int × Int))} {R : List (Int × Int)} (hn : R.Nodup) (h : Mem ok ls us R) : (gather ok [] (ls.flatMap (·.2.2) ++ us.flatMap (·.2))).length = R.length := by
  refine length_same (gather_nodup _ List.nodup_nil) hn (fun x => ?_)
  rw [mem_gather, h x, List.mem_append, List.mem_flatMap, List.mem_flatMap]
  simp

theorem bits_same {R1 R2 rs rs2 : List (Int × Int)} {u1 u2 : Nat → Nat} {ok : Int × Int → Bool} (hm : ∀ x, x ∈ R1 ↔ x ∈ R2) (ho : ∀ x ∈ R1, ok x = true) (b1 : ∀ g (h : g < R1.length), bitU u1 g = true ↔ R1[g] ∈ rs) (b2 : ∀ g (h : g < R2.length), bitU u2 g = true ↔ R2[g] ∈ rs2) (he : ∀ x, ok x = true → (x ∈ rs ↔ x ∈ rs2)) :
    (∀ g (h : g < R1.length), bitU u1 g = true → R1[g] ∈ R2 ∧ bitU u2 (R2.idxOf R1[g]) = true) ∧ (∀ g (h : g < R2.length), bitU u2 g = true → R2[g] ∈ R1 ∧ bitU u1 (R1.idxOf R2[g]) = true) := by
  constructor
  · intro g hg hb
    have h1 : R1[g] ∈ R1 := List.getElem_mem hg
    have h2 : R1[g] ∈ R2 := (hm _).1 h1
    have hl : R2.idxOf R1[g] < R2.length := List.idxOf_lt_length_iff.2 h2
    refine ⟨h2, (b2 _ hl).2 ?_⟩
    rw [List.getElem_idxOf hl]
    exact (he _ (ho _ h1)).1 ((b1 g hg).1 hb)
  · intro g hg hb
    have h1 : R2[g] ∈ R2 := List.getElem_mem hg
    have h2 : R2[g] ∈ R1 := (hm _).2 h1
    have hl : R1.idxOf R2[g] < R1.length := List.idxOf_lt_length_iff.2 h2
    refine ⟨h2, (b1 _ hl).2 ?_⟩
    rw [List.getElem_idxOf hl]
    exact (he _ (ho _ h2)).2 ((b2 g hg).1 hb)
end Go.Proofs.Qxb6612720a
