import Derived.Test.Qxb6602500aQue
namespace Go.Proofs.Qxb6602500a
open Go.RowKit

/-- The waiting lists, as data: an awaited broadcast and the messages that wait for it. -/
abbrev WMap := List ((Nat × Int) × List (Nat × Int))

def look (m : WMap) (k : Nat × Int) : Option (List (Nat × Int)) := (m.find? (fun e => e.1 == k)).map (·.2)

def kN (k : Nat × Int) : Lit := klI k.1 k.2
def vN (k : Nat × Int) : Value := .agg #[.int .i64 k.1, .int .u64 k.2]
def wfN (k : Nat × Int) : Prop := wfI k.1 k.2

theorem keyN {k : Nat × Int} (h : wfN k) : keyOf Try.prog 73 (vN k) = some (kN k) := key_mk h
theorem kN_inj {k k' : Nat × Int} (h : wfN k) (h' : wfN k') (e : kN k = kN k') : k = k' := by
  have := kl_inj h h' e
  exact Prod.ext (by omega) this.2

theorem look_some {m : WMap} (hn : (m.map (·.1)).Nodup) {k : Nat × Int} {ks : List (Nat × Int)} : look m k = some ks ↔ (k, ks) ∈ m := by
  induction m with
  | nil => simp [look]
  | cons e r ih =>
    simp only [List.map_cons, List.nodup_cons] at hn
    have ih' := ih hn.2
    unfold look at ih' ⊢
    by_cases h : e.1 = k
    · rw [List.find?_cons_of_pos (by simp [h])]
      constructor
      · intro h1
        simp at h1
        subst h h1
        simp
      · intro h1
        rcases List.mem_cons.1 h1 with h2 | h2
        · simp [← h2]
        · exact absurd (List.mem_map.2 ⟨_, h2, rfl⟩) (h ▸ hn.1)
    · rw [List.find?_cons_of_neg (by simp [h]), ih']
      constructor
      · intro h1; exact List.mem_cons_of_mem _ h1
      · intro h1
        rcases List.mem_cons.1 h1 with h2 | h2
        · exact absurd (by rw [← h2]) h
        · exact h2

theorem look_none {m : WMap} {k : Nat × Int} : look m k = none ↔ ∀ e ∈ m, e.1 ≠ k := by
  simp [look, List.find?_eq_none]

/-- The slice v holds pointers to messages of the keys ks. -/
def Slc (w : World) (v : Value) (ks : List (Nat × Int)) : Prop :=
  ∃ (rb cap : Nat) (row : Array Value), v = .slice (some ⟨rb, 0, none⟩) ks.length cap ∧ w.heap[rb]? = some (.cells row 53 (0, 0)) ∧ ks.length ≤ cap ∧ cap ≤ maxLen ∧ row.size = cap ∧
    ∀ i (h : i < ks.length), ∃ (b : Nat) (c : Array Value), row[i]? = some (.pointer (some ⟨b, 0, none⟩)) ∧ w.heap[b]? = some (.cells c 99 (0, 0)) ∧ c[0]? = some (.int .i64 ks[i].1) ∧ c[1]? = some (.int .u64 ks[i].2)

/-- Blocks of messages and of rows of them stay. -/
theorem Slc.kept {w w' : World} {v : Value} {ks : List (Nat × Int)} (h : Slc w v ks) (hk : ∀ (b : Nat) (c : Array Value) (t : TypeId), w.heap[b]? = some (.cells c t (0, 0)) → (t = 53 ∨ t = 99) → w'.heap[b]? = w.heap[b]?) : Slc w' v ks := by
  obtain ⟨rb, cap, row, h1, h2, h3, h4, h5, h6⟩ := h
  refine ⟨rb, cap, row, h1, (hk _ _ _ h2 (Or.inl rfl)).trans h2, h3, h4, h5, fun i hi => ?_⟩
  obtain ⟨b, c, g1, g2, g3, g4⟩ := h6 i hi
  exact ⟨b, c, g1, (hk _ _ _ g2 (Or.inr rfl)).trans g2, g3, g4⟩

/-- THE MAP OF WAITING LISTS IN MEMORY. -/
structure Wts (w : World) (mb n : Nat) (D : DataW Value) (m : WMap) : Prop where
  own : w.ownsMap Try.prog 73 rawR mb n D
  dom : ∀ l, Maps.has D l = true → ∃ e ∈ m, l = kN e.1
  at_ : ∀ e ∈ m, wfN e.1 ∧ ∃ v, (∀ z, D.atKey (kN e.1) z = .held v) ∧ Slc w v e.2
  nodup : (m.map (·.1)).Nodup

theorem Wts.kept {w w' : World} {mb n : Nat} {D : DataW Value} {m : WMap} (h : Wts w mb n D m) (hm : w'.heap[mb]? = w.heap[mb]?)
    (hk : ∀ (b : Nat) (c : Array Value) (t : TypeId), w.heap[b]? = some (.cells c t (0, 0)) → (t = 53 ∨ t = 99) → w'.heap[b]? = w.heap[b]?) : Wts w' mb n D m := by
  refine ⟨?_, h.dom, fun e he => ?_, h.nodup⟩
  · obtain ⟨es, clock, hb, rest⟩ := h.own
    exact ⟨es, clock, hm.trans hb, rest⟩
  · obtain ⟨h1, v, h2, h3⟩ := h.at_ e he
    exact ⟨h1, v, h2, h3.kept hk⟩

theorem Wts.below {w w' : World} {mb n : Nat} {D : DataW Value} {m : WMap} (h : Wts w mb n D m) (hb : Below w.heap.size w w') : Wts w' mb n D m :=
  h.kept (hb.block _ h.own.lt) (fun _ _ _ h1 _ => hb.block _ (lt_of_heap h1))

theorem zero93 (w : World) : (zeroValue 93).run Try.prog w = .ok (.slice none 0 0) w := by kernel_rfl

theorem Wts.look_run {w : World} {mb n : Nat} {D : DataW Value} {m : WMap} (h : Wts w mb n D m) {k : Nat × Int} (hk : wfN k) :
    ∃ v, (Instr.lookup 86 (.map (some mb)) (vN k) false).run Try.prog w = .ok v w ∧ ((∃ ks, look m k = some ks ∧ Slc w v ks) ∨ (look m k = none ∧ v = .slice none 0 0)) := by
  obtain ⟨v, ps, hrun, hv⟩ := h.own.lookup law Try.underlying86 (zero93 w) (zd := .held (.slice none 0 0)) (zp := []) rfl (keyN hk)
  simp only [rawR, Option.some.injEq, Prod.mk.injEq] at hv
  refine ⟨v, hrun, ?_⟩
  cases hl : look m k with
  | some ks =>
    have he := (look_some h.nodup).1 hl
    obtain ⟨_, v', h2, h3⟩ := h.at_ _ he
    have e2 : v = v' := by
      have := hv.1.trans (h2 _)
      simpa using this
    exact Or.inl ⟨ks, rfl, e2 ▸ h3⟩
  | none =>
    have hh : Maps.has D (kN k) = false := by
      cases hh : Maps.has D (kN k)
      · rfl
      · obtain ⟨e, he, e1⟩ := h.dom _ hh
        exact absurd (kN_inj hk (h.at_ e he).1 e1).symm (look_none.1 hl e he)
    rw [Maps.atKey_of_not_has hh] at hv
    exact Or.inr ⟨rfl, by simpa using hv.1⟩

/-- How many keys a map has is how many entries its data have. -/
theorem Wts.size {w : World} {mb n : Nat} {D : DataW Value} {m : WMap} (h : Wts w mb n D m) : Maps.size D = m.length := by
  obtain ⟨es, rfl, hp, _⟩ := h.own.entries law
  have h1 : (es.map (·.1)).Nodup := by
    rw [List.nodup_iff_pairwise_ne, List.pairwise_map]
    exact hp
  have h2 : (m.map (fun e => kN e.1)).Nodup := by
    have hn := h.nodup
    rw [List.nodup_iff_pairwise_ne, List.pairwise_map] at hn ⊢
    refine hn.imp_of_mem ?_
    intro a b ha hb hne e
    exact hne (kN_inj (h.at_ a ha).1 (h.at_ b hb).1 e)
  have h3 : (es.map (·.1)).Perm (m.map (fun e => kN e.1)) := by
    rw [List.perm_ext_iff_of_nodup h1 h2]
    intro l
    constructor
    · intro hl
      obtain ⟨p, hp', rfl⟩ := List.mem_map.1 hl
      have hh : Maps.has (DataW.map es) p.1 = true := by
        rw [Maps.has_eq]
        obtain ⟨es', he', _, hk⟩ := h.own.entries law
        cases he'
        exact List.any_eq_true.2 ⟨p, hp', WideAt.sameKey_self (hk p hp')⟩
      obtain ⟨e, he, e1⟩ := h.dom _ hh
      exact List.mem_map.2 ⟨e, he, e1.symm⟩
    · intro hl
      obtain ⟨e, he, rfl⟩ := List.mem_map.1 hl
      obtain ⟨_, v, h4, _⟩ := h.at_ e he
      have hh := Maps.has_true_of_atKey h4
      rw [Maps.has_eq] at hh
      obtain ⟨p, hp', hs⟩ := List.any_eq_true.1 hh
      exact List.mem_map.2 ⟨p, hp', WideAt.sameKey_eq hs⟩
  have := h3.length_eq
  simpa [Maps.size] using this

set_option maxHeartbeats 400000 in
theorem count_calls {w : World} {q mb ab nb n : Nat} {D : DataW Value} {m : WMap} (hq : QCells w q mb ab nb) (h : Wts w mb n D m) :
    Calls Try.prog 20 #[.pointer (some ⟨q, 0, none⟩)] w fun e w' => e = .returned (.int .i64 m.length) ∧ w' = w := by
  obtain ⟨hc6, _, hlq⟩ := hq.cells
  have HZ : Hid (Maps.size D = m.length) := h.size
  have hown := h.own
  go_enter Try.func20, Try.ntmps20
  go_wp2_with (at_len; refine wpList_len_own _ rfl _ 86 rfl 73 93 Try.underlying86 rawR mb n D rfl hown ?_)
  go_ret
  exact ⟨by rw [HZ.out]; rfl, rfl⟩

set_option maxHeartbeats 400000 in
theorem len_calls {w : World} {q mb ab nb n : Nat} {D : DataW Value} {m : WMap} (hq : QCells w q mb ab nb) (h : Wts w mb n D m) (o : Nat) (s : Int) (hk : wfN (o, s)) :
    Calls Try.prog 21 #[.pointer (some ⟨q, 0, none⟩), .int .i64 o, .int .u64 s] w fun e w' => e = .returned (.int .i64 ((look m (o, s)).getD []).length) ∧ w' = w := by
  obtain ⟨hc6, _, hlq⟩ := hq.cells
  obtain ⟨v, hrun, hv⟩ := h.look_run hk
  unfold vN at hrun
  rcases hv with ⟨ks, hl, rb, cap, row, rfl, h2, _⟩ | ⟨hl, rfl⟩
  · have HL : Hid (look m (o, s) = some ks) := hl
    clear hl h2 h
    go_enter Try.func21, Try.ntmps21
    go_wp2
    go_ret
    exact ⟨by rw [HL.out]; rfl, rfl⟩
  · have HL : Hid (look m (o, s) = none) := hl
    clear hl h
    go_enter Try.func21, Try.ntmps21
    go_wp2
    go_ret
    exact ⟨by rw [HL.out]; rfl, rfl⟩

set_option maxHeartbeats 400000 in
theorem waiter_calls {w : World} {q mb ab nb n : Nat} {D : DataW Value} {m : WMap} (hq : QCells w q mb ab nb) (h : Wts w mb n D m) (o : Nat) (s : Int) (hk : wfN (o, s)) (ks : List (Nat × Int)) (hl : look m (o, s) = some ks) (j : Nat) (hj : j < ks.length) :
    Calls Try.prog 22 #[.pointer (some ⟨q, 0, none⟩), .int .i64 o, .int .u64 s, .int .i64 j] w fun e w' => e = .returned (.tuple #[.int .i64 (ks[j]).1, .int .u64 (ks[j]).2]) ∧ Below w.heap.size w w' := by
  obtain ⟨hc6, _, hlq⟩ := hq.cells
  obtain ⟨v, hrun, hv⟩ := h.look_run hk
  unfold vN at hrun
  rcases hv with ⟨ks', hl', rb, cap, row, rfl, h2, h3, h4, h5, h6⟩ | ⟨hl', rfl⟩
  · obtain rfl : ks = ks' := Option.some.inj (hl.symm.trans hl')
    obtain ⟨b, c, g1, g2, g3, g4⟩ := h6 j hj
    have e1 := cell_of_block h2 g1
    have e2 := cell_of_block g2 g3
    have e3 := cell_of_block g2 g4
    have hjl : (j : Int) < ks.length := by omega
    clear h6 hl hl' h
    go_enter Try.func22, Try.ntmps22
    go_wp2
    go_region
    all_goals go_wp2
    all_goals go_ret2
    all_goals exact ⟨rfl, (Below.refl _ _).drew⟩
  · rw [hl] at hl'; cases hl'

end Go.Proofs.Qxb6602500a
