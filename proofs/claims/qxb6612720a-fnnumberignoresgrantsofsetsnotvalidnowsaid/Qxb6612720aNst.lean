import Derived.Test.Qxb6612720aDv
import Derived.Test.Qxb6612720aMaps
namespace Go.Proofs.Qxb6612720a
open Go.RowKit
set_option maxRecDepth 100000

/-- The stored sets: the windows ws, five cells each. -/
def SetsIn (w : World) (SB : Nat) (ws : List (Int × Int)) : Prop :=
  ∃ c : Array Value, w.heap[SB]? = some (.cells c 105 (0, 0)) ∧ ∀ i, i < ws.length → c[i * 5]? = some (.int .i64 (ws.getD i (0, 0)).1) ∧ c[i * 5 + 1]? = some (.int .i64 (ws.getD i (0, 0)).2)

/-- The map of numbers: each of R at its place. -/
def NumIn (w : World) (MB n : Nat) (R : List (Int × Int)) : Prop :=
  ∃ D m, MapIs w 118 MB n D m ∧ Maps.size D = R.length ∧ (∀ kl v, (kl, v) ∈ m ↔ ∃ g, ∃ h : g < R.length, kl = klI (R[g]).1 (R[g]).2 ∧ v = .int .i64 g)

theorem SetsIn.kept {w w' : World} {SB : Nat} {ws : List (Int × Int)} (h : SetsIn w SB ws) (hk : w'.heap[SB]? = w.heap[SB]?) : SetsIn w' SB ws := by
  obtain ⟨c, h1, h2⟩ := h
  exact ⟨c, hk.trans h1, h2⟩
theorem NumIn.kept {w w' : World} {MB n : Nat} {R : List (Int × Int)} (h : NumIn w MB n R) (hk : w'.heap[MB]? = w.heap[MB]?) : NumIn w' MB n R := by
  obtain ⟨D, m, h1, h2⟩ := h
  exact ⟨D, m, h1.kept hk, h2⟩

/-- THE STATE of the numbering: e, numbers, now; R the refs so far. -/
structure NSt (w : World) (E PE PN PW MB SB B : Nat) (q p : Value) (ws : List (Int × Int)) (now : Int) (R : List (Int × Int)) (n : Nat) : Prop where
  e : ∃ rv, w.heap[E]? = some (.cells #[q, .slice (some ⟨SB, 0, none⟩) ws.length ws.length, rv, p] 102 (0, 0)) ∧ Own w B 118 rv R
  pe : w.heap[PE]? = some (.cells #[.pointer (some ⟨E, 0, none⟩)] 96 (0, 0))
  pn : w.heap[PN]? = some (.cells #[.map (some MB)] 120 (0, 0))
  pw : w.heap[PW]? = some (.cells #[.int .i64 now] 2 (0, 0))
  sets : SetsIn w SB ws
  num : NumIn w MB n R
  mb : B ≤ MB
  nd : R.Nodup
  wf : ∀ r ∈ R, wfI r.1 r.2

theorem SetsIn.lt {w : World} {SB : Nat} {ws : List (Int × Int)} (h : SetsIn w SB ws) : SB < w.heap.size := by
  obtain ⟨c, h1, _⟩ := h
  exact lt_of_heap h1
theorem NumIn.lt {w : World} {MB n : Nat} {R : List (Int × Int)} (h : NumIn w MB n R) : MB < w.heap.size := by
  obtain ⟨D, m, h1, _⟩ := h
  exact h1.own.lt

theorem NSt.later {w w' : World} {E PE PN PW MB SB B : Nat} {q p : Value} {ws : List (Int × Int)} {now : Int} {R : List (Int × Int)} {n : Nat} (h : NSt w E PE PN PW MB SB B q p ws now R n) (hb : Below w.heap.size w w') : NSt w' E PE PN PW MB SB B q p ws now R n := by
  obtain ⟨⟨rv, h1, h2⟩, h3, h4, h5, h6, h7, h8, h9, h10⟩ := h
  exact ⟨⟨rv, (hb.block _ (lt_of_heap h1)).trans h1, h2.later hb⟩, (hb.block _ (lt_of_heap h3)).trans h3, (hb.block _ (lt_of_heap h4)).trans h4, (hb.block _ (lt_of_heap h5)).trans h5, h6.kept (hb.block _ h6.lt), h7.kept (hb.block _ h7.lt), h8, h9, h10⟩

/-- WHAT THE NUMBERING LEAVES ALONE: all but e, the map and its own rows of refs. -/
structure Kp (B E MB : Nat) (w w' : World) : Prop where
  os : w'.os = w.os
  tape : w'.tape = w.tape
  output : w'.output = w.output
  size : w.heap.size ≤ w'.heap.size
  block : ∀ k, k < w.heap.size → k ≠ E → k ≠ MB → (B ≤ k → ∀ cs, w.heap[k]? ≠ some (.cells cs 118 (0, 0))) → w'.heap[k]? = w.heap[k]?

theorem Kp.refl (B E MB : Nat) (w : World) : Kp B E MB w w := ⟨rfl, rfl, rfl, Nat.le_refl _, fun _ _ _ _ _ => rfl⟩
theorem Kp.trans {B E MB : Nat} {a b c : World} (h : Kp B E MB a b) (k : Kp B E MB b c) : Kp B E MB a c := by
  refine ⟨k.os.trans h.os, k.tape.trans h.tape, k.output.trans h.output, Nat.le_trans h.size k.size, fun i hi h1 h2 h3 => ?_⟩
  have e := h.block i hi h1 h2 h3
  refine (k.block i (Nat.lt_of_lt_of_le hi h.size) h1 h2 ?_).trans e
  intro hB cs
  rw [e]
  exact h3 hB cs
theorem Kp.of_below {B E MB : Nat} {w w' : World} (h : Below w.heap.size w w') : Kp B E MB w w' := ⟨h.os, h.tape, h.output, h.size, fun k hk _ _ _ => h.block k hk⟩
theorem Kp.of_grown {B E MB : Nat} {w w' : World} {row : Option Nat} (h : w.grownBy w' row) (hr : ∀ k, row = some k → k = MB ∨ (B ≤ k ∧ ∃ cs, w.heap[k]? = some (.cells cs 118 (0, 0)))) : Kp B E MB w w' := by
  refine ⟨h.os, h.tape, h.output, h.size, fun k hk h1 h2 h3 => h.block k hk (fun e => ?_)⟩
  rcases hr k e.symm with e2 | ⟨h4, cs, h5⟩
  · exact h2 e2
  · exact h3 h4 cs h5
theorem Kp.set {B E MB : Nat} {w : World} {i : Nat} {v : Value} : Kp B E MB w (w.setCell ⟨E, i, none⟩ v) :=
  ⟨rfl, rfl, rfl, by simp [World.setCell], fun k _ h1 _ _ => Below.heap_setCell _ _ _ _ h1⟩

/-- One number more. -/
theorem NumIn.store {w : World} {MB n : Nat} {R : List (Int × Int)} (h : NumIn w MB n R) (hn : n < maxLen) {x : Int × Int} (hx : wfI x.1 x.2) (hR : ∀ r ∈ R, wfI r.1 r.2) (hnew : x ∉ R) :
    ∃ w', (Instr.mapUpdate 120 (.map (some MB)) (kvI x.1 x.2) (.int .i64 R.length)).run Try.prog w = .ok () w' ∧ NumIn w' MB (n + 1) (R ++ [x]) ∧ w.mapTurned w' MB := by
  obtain ⟨D, m, h1, h2, h3⟩ := h
  have hno : ∀ y, (klI x.1 x.2, y) ∉ m := fun y hy => by
    obtain ⟨g, hg, e1, _⟩ := (h3 _ _).1 hy
    obtain ⟨a1, a2⟩ := kl_inj hx (hR _ (List.getElem_mem hg)) e1
    exact hnew (by rw [show x = R[g] from Prod.ext a1 a2]; exact List.getElem_mem hg)
  obtain ⟨w', hrun, hm, ht⟩ := h1.store (v := .int .i64 R.length) law Try.underlying120 hn (key_mk hx) hno
  refine ⟨w', hrun, ⟨_, _, hm, ?_, fun kl v => ?_⟩, ht⟩
  · have hh : Maps.has D (klI x.1 x.2) = false := by
      cases e : Maps.has D (klI x.1 x.2)
      · rfl
      · obtain ⟨v, hv⟩ := h1.has.1 e
        exact absurd hv (hno v)
    rw [Maps.size_put (h1.own.tidy law), hh, List.length_append, h2]
    rfl
  · rw [List.mem_cons, h3]
    constructor
    · rintro (e | ⟨g, hg, e1, e2⟩)
      · cases e
        exact ⟨R.length, by simp, by simp, rfl⟩
      · exact ⟨g, by simp; omega, by rw [List.getElem_append_left hg]; exact e1, e2⟩
    · rintro ⟨g, hg, e1, e2⟩
      by_cases hl : g < R.length
      · rw [List.getElem_append_left hl] at e1
        exact Or.inr ⟨g, hl, e1, e2⟩
      · have eg : g = R.length := by simp at hg; omega
        subst eg
        refine Or.inl ?_
        rw [e1, e2]
        simp

/-- Is it numbered? -/
theorem NumIn.look {w : World} {MB n : Nat} {R : List (Int × Int)} (h : NumIn w MB n R) {x : Int × Int} (hx : wfI x.1 x.2) (hR : ∀ r ∈ R, wfI r.1 r.2) (hnd : R.Nodup) :
    ∃ v, (Instr.lookup 120 (.map (some MB)) (kvI x.1 x.2) true).run Try.prog w = .ok (.tuple #[v, .bool (decide (x ∈ R))]) w ∧ (x ∈ R → v = .int .i64 (R.idxOf x)) := by
  obtain ⟨D, m, h1, h2, h3⟩ := h
  obtain ⟨v, hrun, hv⟩ := h1.look_ok law Try.underlying120 (z := .int .i64 0) rfl (key_mk hx)
  have hin : x ∈ R ↔ ∃ y, (klI x.1 x.2, y) ∈ m := by
    constructor
    · intro hm
      obtain ⟨g, hg, e⟩ := List.getElem_of_mem hm
      exact ⟨_, (h3 _ _).2 ⟨g, hg, by rw [e], rfl⟩⟩
    · rintro ⟨y, hy⟩
      obtain ⟨g, hg, e1, _⟩ := (h3 _ _).1 hy
      obtain ⟨a1, a2⟩ := kl_inj hx (hR _ (List.getElem_mem hg)) e1
      rw [show x = R[g] from Prod.ext a1 a2]
      exact List.getElem_mem hg
  have hb : Maps.has D (klI x.1 x.2) = decide (x ∈ R) := by
    rw [Bool.eq_iff_iff, h1.has, decide_eq_true_iff, hin]
  refine ⟨v, by rw [← hb]; exact hrun, fun hm => ?_⟩
  rcases hv with hv | ⟨hv, _⟩
  · obtain ⟨g, hg, e1, e2⟩ := (h3 _ _).1 hv
    obtain ⟨a1, a2⟩ := kl_inj hx (hR _ (List.getElem_mem hg)) e1
    have ex : x = R[g] := Prod.ext a1 a2
    rw [e2, ex, hnd.idxOf_getElem g hg]
  · obtain ⟨y, hy⟩ := hin.1 hm
    exact absurd hy (hv y)

theorem MapIs.mono {w : World} {KT : TypeId} {mb n n' : Nat} {D : DataW Value} {m : List (Lit × Value)} (h : MapIs w KT mb n D m) (hn : n ≤ n') : MapIs w KT mb n' D m := ⟨h.own.mono hn, h.dom, h.at_, h.nodup⟩
theorem NumIn.mono {w : World} {MB n n' : Nat} {R : List (Int × Int)} (h : NumIn w MB n R) (hn : n ≤ n') : NumIn w MB n' R := by
  obtain ⟨D, m, h1, h2⟩ := h
  exact ⟨D, m, h1.mono hn, h2⟩
theorem NSt.mono {w : World} {E PE PN PW MB SB B : Nat} {q p : Value} {ws : List (Int × Int)} {now : Int} {R : List (Int × Int)} {n n' : Nat} (h : NSt w E PE PN PW MB SB B q p ws now R n) (hn : n ≤ n') : NSt w E PE PN PW MB SB B q p ws now R n' :=
  ⟨h.e, h.pe, h.pn, h.pw, h.sets, h.num.mono hn, h.mb, h.nd, h.wf⟩
theorem CpR.kept {w w' : World} {N : Nat} {rs : List (Int × Int)} {k : Nat} (h : CpR w N rs k) (hk : w'.heap[N]? = w.heap[N]?) : CpR w' N rs k := by
  obtain ⟨c, h1, h2⟩ := h
  exact ⟨c, hk.trans h1, h2⟩
theorem CpR.lt {w : World} {N : Nat} {rs : List (Int × Int)} {k : Nat} (h : CpR w N rs k) : N < w.heap.size := by
  obtain ⟨c, h1, _⟩ := h
  exact lt_of_heap h1
theorem CpR.kp {w w' : World} {B E MB N : Nat} {rs : List (Int × Int)} {k : Nat} (h : CpR w N rs k) (hk : Kp B E MB w w') (hN : N < B) (hM : B ≤ MB) {cE : Array Value} (hE : w.heap[E]? = some (.cells cE 102 (0, 0))) : CpR w' N rs k := by
  refine h.kept (hk.block N h.lt ?_ (by omega) (fun hB => absurd hB (by omega)))
  obtain ⟨c, h1, _⟩ := h
  exact apart h1 hE (by decide)
theorem map_other {w w' : World} {mb : Nat} (h : w.mapTurned w' mb) {k : Nat} (hk : k < w.heap.size) (hne : k ≠ mb) : w'.heap[k]? = w.heap[k]? :=
  h.grown.block k hk (fun e => hne (Option.some.inj e))

/-- THE STEP of the numbering, its memory: the number stored, the ref appended, e's refs set. -/
theorem NSt.push {w w1 w2 : World} {E PE PN PW MB SB B : Nat} {q p : Value} {ws : List (Int × Int)} {now : Int} {R : List (Int × Int)} {n g cap : Nat} {x : Int × Int} {rv : Value}
    (h : NSt w E PE PN PW MB SB B q p ws now R n) (hE : E < B) (hx : wfI x.1 x.2) (hnew : x ∉ R)
    (hrv : w.heap[E]? = some (.cells #[q, .slice (some ⟨SB, 0, none⟩) ws.length ws.length, rv, p] 102 (0, 0))) (hown : Own w B 118 rv R)
    (hnum : NumIn w1 MB (n + 1) (R ++ [x])) (ht : w.mapTurned w1 MB) {o : Obj}
    (happ : w2.ownsRow B 118 2 (.slice (some ⟨g, 0, none⟩) (R.length + 1) cap) (R.length + 1) (rcells R ++ [.int .i64 x.1, .int .i64 x.2])) (hgr : (w1.drew.alloc o).grownBy w2 rv.ownBlock) :
    NSt (w2.setCell ⟨E, 2, none⟩ (.slice (some ⟨g, 0, none⟩) (R.length + 1) cap)) E PE PN PW MB SB B q p ws now (R ++ [x]) (n + 1) ∧ Kp B E MB w (w2.setCell ⟨E, 2, none⟩ (.slice (some ⟨g, 0, none⟩) (R.length + 1) cap)) := by
  obtain ⟨-, h3, h4, h5, h6, h7, h8, h9, h10⟩ := h
  have hrow : ∀ k, rv.ownBlock = some k → B ≤ k ∧ ∃ cs, w.heap[k]? = some (.cells cs 118 (0, 0)) := fun k hk => by
    rcases hown.2 with ⟨e1, _⟩ | ⟨g0, cap0, cur, e1, e2, e3, _⟩
    · rw [e1] at hk; cases hk
    · rw [e1] at hk
      cases hk
      exact ⟨e2, cur, e3⟩
  have sz1 : w.heap.size ≤ w1.heap.size := ht.grown.size
  -- a block that is neither the map nor the row
  have hk1 : ∀ k, k < w.heap.size → k ≠ MB → rv.ownBlock ≠ some k → w2.heap[k]? = w.heap[k]? := fun k hk hm hr => by
    rw [hgr.block k (by simp; omega) (fun e => hr e.symm), Below.heap_alloc _ _ _ (by show k < w1.heap.size; omega)]
    exact map_other ht hk hm
  have notrow : ∀ {k : Nat} {cs : Array Value} {t : TypeId}, w.heap[k]? = some (.cells cs t (0, 0)) → t ≠ 118 → rv.ownBlock ≠ some k := fun {k cs t} hk ht0 e => by
    obtain ⟨_, cs', e2⟩ := hrow k e
    rw [hk] at e2
    cases e2
    exact ht0 rfl
  have notmap : ∀ {k : Nat} {cs : Array Value} {t : TypeId}, w.heap[k]? = some (.cells cs t (0, 0)) → k ≠ MB := fun {k cs t} hk e => by
    obtain ⟨es, clock, es', clock', hb, _⟩ := ht
    rw [← e, hk] at hb
    cases hb
  have kc : ∀ {k : Nat} {cs : Array Value} {t : TypeId}, w.heap[k]? = some (.cells cs t (0, 0)) → t ≠ 118 → w2.heap[k]? = some (.cells cs t (0, 0)) := fun {k cs t} hk ht0 => (hk1 k (lt_of_heap hk) (notmap hk) (notrow hk ht0)).trans hk
  have hmapblk : w2.heap[MB]? = w1.heap[MB]? := by
    have hlt := h7.lt
    have hr : rv.ownBlock ≠ some MB := fun e => by
      obtain ⟨_, cs', e2⟩ := hrow MB e
      exact notmap e2 rfl
    rw [hgr.block MB (by simp; omega) (fun e => hr e.symm), Below.heap_alloc _ _ _ (by show MB < w1.heap.size; omega)]
    rfl
  have hEne : MB ≠ E := by omega
  obtain ⟨cS, s1, s2⟩ := h6
  have keepC : ∀ {k : Nat} {cs : Array Value} {t : TypeId}, w.heap[k]? = some (.cells cs t (0, 0)) → t ≠ 118 → k ≠ E → (w2.setCell ⟨E, 2, none⟩ (.slice (some ⟨g, 0, none⟩) (R.length + 1) cap)).heap[k]? = some (.cells cs t (0, 0)) := fun {k cs t} hk ht0 hne => (Below.heap_setCell _ _ _ _ hne).trans (kc hk ht0)
  refine ⟨⟨⟨.slice (some ⟨g, 0, none⟩) (R.length + 1) cap, ?_, ?_⟩, keepC h3 (by decide) (apart h3 hrv (by decide)), keepC h4 (by decide) (apart h4 hrv (by decide)), keepC h5 (by decide) (apart h5 hrv (by decide)), ⟨cS, keepC s1 (by decide) (apart s1 hrv (by decide)), s2⟩, ?_, h8, ?_, ?_⟩, ?_⟩
  · rw [block_set (kc hrv (by decide))]
    rfl
  · refine Own.push ?_
    refine ⟨happ.1, ?_⟩
    rcases happ.2 with e1 | ⟨g0, cap0, cur, e1, e2, e3, e4⟩
    · exact Or.inl e1
    · refine Or.inr ⟨g0, cap0, cur, e1, e2, ?_, e4⟩
      have : g0 ≠ E := by omega
      exact (Below.heap_setCell _ _ _ _ this).trans e3
  · refine hnum.kept ?_
    exact (Below.heap_setCell _ _ _ _ hEne).trans hmapblk
  · rw [List.nodup_append]
    exact ⟨h9, by simp, fun a ha b hb => by rw [List.mem_singleton.1 hb]; rintro rfl; exact hnew ha⟩
  · intro r hr
    rcases List.mem_append.1 hr with hr | hr
    · exact h10 r hr
    · rw [List.mem_singleton.1 hr]; exact hx
  · have a1 : Kp B E MB w w1 := Kp.of_grown ht.grown (fun k hk => Or.inl (Option.some.inj hk).symm)
    have a2 : Kp B E MB w1 (w1.drew.alloc o) := Kp.of_below ((Below.refl _ _).drew.alloc (Nat.le_refl _) _)
    have a3 : Kp B E MB (w1.drew.alloc o) w2 := Kp.of_grown hgr (fun k hk => Or.inr ⟨(hrow k hk).1, (hrow k hk).2.choose, by
      have hs := (hrow k hk).2.choose_spec
      rw [Below.heap_alloc _ _ _ (by show k < w1.heap.size; have := lt_of_heap hs; omega)]
      exact (map_other ht (lt_of_heap hs) (notmap hs)).trans hs⟩)
    exact ((a1.trans a2).trans a3).trans Kp.set
end Go.Proofs.Qxb6612720a
