import Derived.Test.Qxb6602500aSweep
namespace Go.Proofs.Qxb6602500a
open Go.RowKit
open Go.ChangeMaps (setBlock heap_setBlock_same heap_setBlock_other)

/-- One message more waits for k. -/
def push (m : WMap) (k x : Nat × Int) : WMap :=
  match look m k with
  | none => m ++ [(k, [x])]
  | some _ => m.map (fun e => if e.1 = k then (e.1, e.2 ++ [x]) else e)

theorem entry_run {w : World} {mb n : Nat} {D : DataW Value} (hown : w.ownsMap Try.prog 73 rawR mb n D) (hn : n < maxLen) {k : Nat × Int} (hk : wfN k) {v0 : Value} (hv0 : D.atKey (kN k) (.held (.slice none 0 0)) = .held v0) :
    ∃ (st : Nat) (w1 : World), (Instr.mapEntry 86 (.map (some mb)) (vN k)).run Try.prog w = .ok (.tuple #[v0, .int .i64 st]) w1 ∧ w.mapTurned w1 mb ∧
      ∀ (w2 : World) (val : Value), w2.heap[mb]? = w1.heap[mb]? → ∃ w3, (Instr.entryStore 86 (.map (some mb)) (.int .i64 st) val).run Try.prog w2 = .ok () w3 ∧ w2.mapTurned w3 mb ∧ w3.ownsMap Try.prog 73 rawR mb (n + 1) (D.put (kN k) (.held val)) := by
  have hst := fun val => hown.store law Try.underlying86 hn (keyN hk) (val := val) (d := .held val) (ps := []) rfl
  obtain ⟨es, clock, hb, F, hs, rfl⟩ := hown
  obtain ⟨v1, st, es1, clock1, hrun, hchar, hstore⟩ := WideElems.entry_then_store keyLaw Try.underlying86 (z := .slice none 0 0) (fun u => zero93 u) hb F (keyN hk)
  have e1 : v1 = v0 := by
    rcases Maps.fit_look false law Try.underlying86 (zero93 w) hb F (keyN hk) with ⟨_, hno, hat⟩ | ⟨e0, y, he0, hk0, _, hR, hat, _⟩
    · rw [hat] at hv0
      rcases hchar with ⟨e0, he0, hk0, _⟩ | ⟨_, h2⟩
      · exact absurd hk0 (hno e0 he0)
      · rw [h2]; simpa using hv0
    · rw [hat] at hv0
      simp only [rawR, Option.some.injEq] at hR
      rw [← hR] at hv0
      have hv : e0.val = v0 := by simpa using hv0
      rcases hchar with ⟨e2, he2, hk2, h2⟩ | ⟨hno, _⟩
      · have : e2 = e0 := entry_eq_of_key ((MapKept.stamped_iff es clock).1 F.stamped).2.2 he2 he0 (hk2.trans hk0.symm)
        rw [h2, this, hv]
      · exact absurd hk0 (hno e0 he0)
  subst e1
  refine ⟨st, _, hrun, ⟨es, clock, es1, clock1, hb, rfl⟩, fun w2 val hw2 => ?_⟩
  rw [heap_setBlock_same hb] at hw2
  obtain ⟨es', clock', hs1, hs2⟩ := hstore w2 val hw2
  obtain ⟨w', hu1, hu2, _⟩ := hst val
  have ew : w' = setBlock w mb (.map es' clock') := by
    have := hu1.symm.trans hs2
    simpa using this
  refine ⟨_, hs1, ⟨es1, clock1, es', clock', hw2, rfl⟩, ?_⟩
  obtain ⟨es2, clock2, hb2, rest⟩ := hu2
  rw [ew, heap_setBlock_same hb] at hb2
  cases hb2
  exact ⟨es', clock', heap_setBlock_same hw2 _, rest⟩

/-- Block b is a message of key x. -/
def Bx (w : World) (b : Nat) (x : Nat × Int) : Prop := ∃ c : Array Value, w.heap[b]? = some (.cells c 99 (0, 0)) ∧ c[0]? = some (.int .i64 x.1) ∧ c[1]? = some (.int .u64 x.2)

def ptrs (bs : List Nat) : List Value := bs.map (fun b => .pointer (some ⟨b, 0, none⟩))

/-- The row of one key's waiters. -/
structure RowOf (w : World) (B : Nat) (v : Value) (ks : List (Nat × Int)) (bs : List Nat) : Prop where
  own : w.ownsRow B 53 1 v ks.length (ptrs bs)
  shape : ∃ g cap, v = .slice (some ⟨g, 0, none⟩) ks.length cap
  len : bs.length = ks.length
  box : ∀ (i b : Nat) (x : Nat × Int), bs[i]? = some b → ks[i]? = some x → Bx w b x

/-- THE QUEUE WHILE IT IS BUILT, in a build that began in w0. -/
structure BSt (w0 : World) (q mb ab nb n : Nat) (D : DataW Value) (m : WMap) (wr : World) : Prop where
  qc : QCells wr q mb ab nb
  lost : Lost wr ab nb (fun _ => none) (fun _ => (0, 0))
  own : wr.ownsMap Try.prog 73 rawR mb n D
  dom : ∀ l, Maps.has D l = true → ∃ e ∈ m, l = kN e.1
  at_ : ∀ e ∈ m, wfN e.1 ∧ ∃ v bs, (∀ z, D.atKey (kN e.1) z = .held v) ∧ RowOf wr w0.heap.size v e.2 bs
  inj : ∀ e ∈ m, ∀ e' ∈ m, ∀ v v', (∀ z, D.atKey (kN e.1) z = .held v) → (∀ z, D.atKey (kN e'.1) z = .held v') → v.ownBlock = v'.ownBlock → e.1 = e'.1
  nodup : (m.map (·.1)).Nodup
  below : Below w0.heap.size w0 wr
  news : w0.heap.size ≤ mb ∧ w0.heap.size ≤ ab ∧ w0.heap.size ≤ q

theorem RowOf.block {w B v ks bs} (h : RowOf w B v ks bs) : ∃ g cap c, v = .slice (some ⟨g, 0, none⟩) ks.length cap ∧ B ≤ g ∧ w.heap[g]? = some (.cells c 53 (0, 0)) ∧ ks.length ≤ cap ∧ cap ≤ maxLen ∧ c.size = cap ∧ c.toList.take ks.length = ptrs bs := by
  rcases h.own.2 with ⟨h1, _⟩ | ⟨g, cap, cur, h1, h2, h3, h4, h5, h6, h7⟩
  · obtain ⟨g, cap, h2⟩ := h.shape
    rw [h1] at h2
    cases h2
  · exact ⟨g, cap, cur, h1, h2, h3, h4, h5, by simpa using h6, by simpa using h7⟩

theorem RowOf.kept {w w' : World} {B v ks bs} (h : RowOf w B v ks bs) (h1 : ∀ g, v.ownBlock = some g → w'.heap[g]? = w.heap[g]?) (h2 : ∀ (b : Nat) (c : Array Value), w.heap[b]? = some (.cells c 99 (0, 0)) → w'.heap[b]? = w.heap[b]?) : RowOf w' B v ks bs := by
  refine ⟨?_, h.shape, h.len, fun i b x hb hx => ?_⟩
  · refine ⟨h.own.1, ?_⟩
    rcases h.own.2 with hn | ⟨g, cap, cur, rfl, k2, k3, k4⟩
    · exact Or.inl hn
    · exact Or.inr ⟨g, cap, cur, rfl, k2, (h1 g rfl).trans k3, k4⟩
  · obtain ⟨c, k1, k2⟩ := h.box i b x hb hx
    exact ⟨c, (h2 b c k1).trans k1, k2⟩

/-- A built row is read as one. -/
theorem RowOf.slc {w B v ks bs} (h : RowOf w B v ks bs) : Slc w v ks := by
  obtain ⟨g, cap, c, h1, _, h3, h4, h5, h6, h7⟩ := h.block
  refine ⟨g, cap, c, h1, h3, h4, h5, h6, fun i hi => ?_⟩
  have hib : i < bs.length := by rw [h.len]; exact hi
  obtain ⟨c', k1, k2, k3⟩ := h.box i bs[i] ks[i] (List.getElem?_eq_getElem hib) (List.getElem?_eq_getElem hi)
  refine ⟨bs[i], c', ?_, k1, k2, k3⟩
  have : (c.toList.take ks.length)[i]? = c.toList[i]? := List.getElem?_take_of_lt hi
  rw [h7] at this
  rw [← Array.getElem?_toList, ← this]
  simp [ptrs, hib]

section
variable {w0 : World} {q mb ab nb n : Nat} {D : DataW Value} {m : WMap} {wr : World}

theorem BSt.wts (h : BSt w0 q mb ab nb n D m wr) : Wts wr mb n D m :=
  ⟨h.own, h.dom, fun e he => by obtain ⟨h1, v, bs, h2, h3⟩ := h.at_ e he; exact ⟨h1, v, h2, h3.slc⟩, h.nodup⟩

theorem BSt.step (h : BSt w0 q mb ab nb n D m wr) {w' : World} (hb : Below wr.heap.size wr w') : BSt w0 q mb ab nb n D m w' := by
  have hs := h.below.size
  refine ⟨h.qc.kept (fun _ h1 => hb.block _ (lt_of_heap h1)), h.lost.below hb, ?_, h.dom, fun e he => ?_, h.inj, h.nodup, h.below.trans (hb.mono hs), h.news⟩
  · obtain ⟨es, clock, k1, rest⟩ := h.own
    exact ⟨es, clock, (hb.block _ (lt_of_heap k1)).trans k1, rest⟩
  · obtain ⟨h1, v, bs, h2, h3⟩ := h.at_ e he
    refine ⟨h1, v, bs, h2, h3.kept (fun g hg => ?_) (fun b c hb' => hb.block _ (lt_of_heap hb'))⟩
    exact hb.block _ (h3.own.lt g hg).2

/-- The new row, and the map behind the store: one message more waits. -/
theorem BSt.pushed (h : BSt w0 q mb ab nb n D m wr) {k x : Nat × Int} (hk : wfN k) {v0 : Value} {len : Nat} {xs : List Value} (hv0 : D.atKey (kN k) (.held (.slice none 0 0)) = .held v0)
    (hl0 : ∀ ks, look m k = some ks → len = ks.length ∧ ∃ bs, RowOf wr w0.heap.size v0 ks bs ∧ xs = ptrs bs) (hl1 : look m k = none → len = 0 ∧ xs = [] ∧ v0 = .slice none 0 0)
    {wf : World} {g cap bm : Nat} (hbx : Bx wr bm x)
    (hown : wf.ownsMap Try.prog 73 rawR mb (n + 1) (D.put (kN k) (.held (.slice (some ⟨g, 0, none⟩) (len + 1) cap))))
    (hrow : wf.ownsRow w0.heap.size 53 1 (.slice (some ⟨g, 0, none⟩) (len + 1) cap) (len + 1) (xs ++ [.pointer (some ⟨bm, 0, none⟩)]))
    (hloc : v0.ownBlock = some g ∨ wr.heap.size ≤ g) (hkeep : ∀ (b : Nat) (c : Array Value) (t : TypeId), wr.heap[b]? = some (.cells c t (0, 0)) → v0.ownBlock ≠ some b → wf.heap[b]? = some (.cells c t (0, 0))) (hb : Below w0.heap.size wr wf) :
    BSt w0 q mb ab nb (n + 1) (D.put (kN k) (.held (.slice (some ⟨g, 0, none⟩) (len + 1) cap))) (push m k x) wf := by
  have hIM : Maps.IsMap D := h.own.isMap
  have hKL : WideAt.IsKeyLit (kN k) := law.key (keyN hk)
  -- whatever v0 owns is a row of pointers
  have hv0t : ∀ b, v0.ownBlock = some b → w0.heap.size ≤ b ∧ ∃ c, wr.heap[b]? = some (.cells c 53 (0, 0)) := by
    intro b hb'
    cases hl : look m k with
    | none => rw [(hl1 hl).2.2] at hb'; cases hb'
    | some ks =>
      obtain ⟨_, bs, hr, _⟩ := hl0 ks hl
      obtain ⟨g', cap', c, e1, e2, e3, _⟩ := hr.block
      rw [e1] at hb'
      simp [Value.ownBlock] at hb'
      subst hb'
      exact ⟨e2, c, e3⟩
  have keep : ∀ (b : Nat) (c : Array Value) (t : TypeId), wr.heap[b]? = some (.cells c t (0, 0)) → t ≠ 53 → wf.heap[b]? = some (.cells c t (0, 0)) := fun b c t hb' ht => hkeep b c t hb' (fun e => by
    obtain ⟨_, c', h2⟩ := hv0t b e
    rw [hb'] at h2
    cases h2
    exact ht rfl)
  have hbx' : Bx wf bm x := by
    obtain ⟨c, k1, k2⟩ := hbx
    exact ⟨c, keep _ _ _ k1 (by decide), k2⟩
  have keepBx : ∀ b y, Bx wr b y → Bx wf b y := fun b y ⟨c, k1, k2⟩ => ⟨c, keep _ _ _ k1 (by decide), k2⟩
  -- the new row as a row of waiters
  have newRow : ∃ bs, RowOf wf w0.heap.size (.slice (some ⟨g, 0, none⟩) (len + 1) cap) (((look m k).getD []) ++ [x]) bs := by
    cases hl : look m k with
    | none =>
      obtain ⟨rfl, rfl, rfl⟩ := hl1 hl
      refine ⟨[bm], ⟨hrow, ⟨g, cap, rfl⟩, rfl, fun i b y hb' hy => ?_⟩⟩
      match i with
      | 0 => simp at hb' hy; subst hb' hy; exact hbx'
      | i + 1 => simp at hb'
    | some ks =>
      obtain ⟨rfl, bs, hr, rfl⟩ := hl0 ks hl
      refine ⟨bs ++ [bm], ⟨?_, ⟨g, cap, by simp⟩, by simp [hr.len], fun i b y hb' hy => ?_⟩⟩
      · simp only [Option.getD_some, List.length_append, List.length_cons, List.length_nil, ptrs, List.map_append, List.map_cons, List.map_nil]
        exact hrow
      · simp only [Option.getD_some] at hy
        by_cases hi : i < ks.length
        · rw [List.getElem?_append_left (by rw [hr.len]; exact hi)] at hb'
          rw [List.getElem?_append_left hi] at hy
          exact keepBx b y (hr.box i b y hb' hy)
        · rw [List.getElem?_append_right (by rw [hr.len]; omega)] at hb'
          rw [List.getElem?_append_right (by omega)] at hy
          rw [hr.len] at hb'
          match hj : i - ks.length with
          | 0 => rw [hj] at hb' hy; simp at hb' hy; subst hb' hy; exact hbx'
          | j + 1 => rw [hj] at hb'; simp at hb'
  obtain ⟨nbs, hnew⟩ := newRow
  have otherRow : ∀ e ∈ m, e.1 ≠ k → wfN e.1 ∧ ∃ v bs, (∀ z, (D.put (kN k) (.held (.slice (some ⟨g, 0, none⟩) (len + 1) cap))).atKey (kN e.1) z = .held v) ∧ RowOf wf w0.heap.size v e.2 bs ∧ (∀ z, D.atKey (kN e.1) z = .held v) ∧ v.ownBlock ≠ some g := by
    intro e he hne
    obtain ⟨h1, v, bs, h2, h3⟩ := h.at_ e he
    have hkn : kN e.1 ≠ kN k := fun e1 => hne (kN_inj h1 hk e1)
    obtain ⟨g', cap', c, e1, e2, e3, _⟩ := h3.block
    have hnv : v0.ownBlock ≠ some g' := by
      intro e4
      cases hl : look m k with
      | none => rw [(hl1 hl).2.2] at e4; cases e4
      | some ks =>
        have hm := (look_some h.nodup).1 hl
        obtain ⟨_, v', _, h5, _⟩ := h.at_ _ hm
        have : v' = v0 := by
          have h6 := h5 (.held (.slice none 0 0))
          simp only at h6
          rw [hv0] at h6
          simpa using h6.symm
        subst this
        exact hne (h.inj e he _ hm v v' h2 h5 (by rw [e4, e1]; rfl))
    refine ⟨h1, v, bs, fun z => by rw [Maps.atKey_put_other hkn]; exact h2 z, h3.kept (fun g'' hg => ?_) (fun b c hb' => (keep b c 99 hb' (by decide)).trans hb'.symm), h2, fun e5 => ?_⟩
    · rw [e1] at hg
      simp [Value.ownBlock] at hg
      subst hg
      rw [hkeep g' c 53 e3 hnv, e3]
    · rw [e1] at e5
      simp [Value.ownBlock] at e5
      subst e5
      rcases hloc with h6 | h6
      · exact hnv h6
      · have := lt_of_heap e3
        omega
  have hatk : ∀ z, (D.put (kN k) (.held (.slice (some ⟨g, 0, none⟩) (len + 1) cap))).atKey (kN k) z = .held (.slice (some ⟨g, 0, none⟩) (len + 1) cap) := fun z => Maps.atKey_put_same hIM hKL _ _
  -- who is in the new list
  have hmem : ∀ e ∈ push m k x, (e = (k, (look m k).getD [] ++ [x])) ∨ (e ∈ m ∧ e.1 ≠ k) := by
    intro e he
    unfold push at he
    cases hl : look m k with
    | none =>
      rw [hl] at he
      rcases List.mem_append.1 he with he | he
      · exact Or.inr ⟨he, look_none.1 hl e he⟩
      · simp at he; exact Or.inl (by simp [he])
    | some ks =>
      rw [hl] at he
      obtain ⟨a, ha, rfl⟩ := List.mem_map.1 he
      by_cases e1 : a.1 = k
      · left
        have : a.2 = ks := by
          have h1 := (look_some h.nodup (k := a.1) (ks := a.2)).2 ha
          rw [e1, hl] at h1
          simpa using h1.symm
        simp [e1, this]
      · right
        rw [if_neg e1]
        exact ⟨ha, e1⟩
  have hmemk : ∃ e ∈ push m k x, e.1 = k := by
    unfold push
    cases hl : look m k with
    | none => exact ⟨(k, [x]), by simp, rfl⟩
    | some ks => exact ⟨(k, ks ++ [x]), List.mem_map.2 ⟨(k, ks), (look_some h.nodup).1 hl, by simp⟩, rfl⟩
  have hmemo : ∀ e ∈ m, e.1 ≠ k → e ∈ push m k x := by
    intro e he hne
    unfold push
    cases hl : look m k with
    | none => exact List.mem_append_left _ he
    | some ks => exact List.mem_map.2 ⟨e, he, by simp [hne]⟩
  have hnd : ((push m k x).map (·.1)).Nodup := by
    unfold push
    cases hl : look m k with
    | none =>
      simp only [List.map_append, List.map_cons, List.map_nil]
      refine List.nodup_append.2 ⟨h.nodup, by simp, fun a ha b hb' => ?_⟩
      simp at hb'
      obtain ⟨e, he, rfl⟩ := List.mem_map.1 ha
      rw [hb']
      exact look_none.1 hl e he
    | some ks =>
      simp only [List.map_map]
      have : ((fun e : (Nat × Int) × List (Nat × Int) => e.1) ∘ fun e => if e.1 = k then (e.1, e.2 ++ [x]) else e) = (fun e => e.1) := by
        funext e
        simp only [Function.comp]
        split <;> rfl
      rw [this]
      exact h.nodup
  refine ⟨h.qc.kept (fun c h1 => (keep _ _ _ h1 (by decide)).trans h1.symm), h.lost.kept (fun b hb' => ?_), hown, fun l hl => ?_, fun e he => ?_, ?_, hnd, h.below.trans hb, h.news⟩
  · obtain ⟨c, t, h1, h2⟩ := h.lost.tag hb'
    rw [keep b c t h1 (by rcases h2 with rfl | rfl <;> decide), h1]
  · by_cases e1 : l = kN k
    · obtain ⟨e, he, rfl⟩ := hmemk
      exact ⟨e, he, e1⟩
    · rw [Maps.has_put_other e1] at hl
      obtain ⟨e, he, rfl⟩ := h.dom l hl
      exact ⟨e, hmemo e he (fun e2 => e1 (by rw [e2])), rfl⟩
  · rcases hmem e he with rfl | ⟨he', hne⟩
    · exact ⟨hk, _, nbs, hatk, hnew⟩
    · obtain ⟨h1, v, bs, h2, h3, _⟩ := otherRow e he' hne
      exact ⟨h1, v, bs, h2, h3⟩
  · intro e he e' he' v v' hv hv' hob
    have inv : ∀ {a : (Nat × Int) × List (Nat × Int)} {u : Value}, (∀ z, (D.put (kN k) (.held (.slice (some ⟨g, 0, none⟩) (len + 1) cap))).atKey (kN a.1) z = .held u) → a.1 = k → u = .slice (some ⟨g, 0, none⟩) (len + 1) cap := by
      intro a u hu e1
      have h1 := hu .nil
      rw [e1, hatk] at h1
      simpa using h1.symm
    rcases hmem e he with e1 | ⟨he1, hne1⟩ <;> rcases hmem e' he' with e2 | ⟨he2, hne2⟩
    · rw [e1, e2]
    · exfalso
      have hk1 : e.1 = k := by rw [e1]
      rw [inv hv hk1] at hob
      obtain ⟨_, u, _, h2, _, _, h5⟩ := otherRow e' he2 hne2
      have : v' = u := by have := (hv' .nil).symm.trans (h2 .nil); simpa using this
      rw [this] at hob
      exact h5 hob.symm
    · exfalso
      have hk1 : e'.1 = k := by rw [e2]
      rw [inv hv' hk1] at hob
      obtain ⟨_, u, _, h2, _, _, h5⟩ := otherRow e he1 hne1
      have : v = u := by have := (hv .nil).symm.trans (h2 .nil); simpa using this
      rw [this] at hob
      exact h5 hob
    · obtain ⟨_, u, _, h2, _, h4, _⟩ := otherRow e he1 hne1
      obtain ⟨_, u', _, h2', _, h4', _⟩ := otherRow e' he2 hne2
      have e3 : v = u := by have := (hv .nil).symm.trans (h2 .nil); simpa using this
      have e4 : v' = u' := by have := (hv' .nil).symm.trans (h2' .nil); simpa using this
      rw [e3, e4] at hob
      exact h.inj e he1 e' he2 u u' h4 h4' hob
end
end Go.Proofs.Qxb6602500a
