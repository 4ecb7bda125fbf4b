/-
  DERIVED. THE PROOF OF 'Rows.FnNumberIgnoresGrantsOfSetsNotValidNowSaid': from the walk (Qxb6612720aLaw) to the given statement.
-/
import Derived.Test.Qxb6612720aLaw
import Derived.ProofKit
import Derived.OpenShut
import Derived.ShutString
import Derived.ChangeOld
import Derived.Deep.SlicePairs
namespace Go.Proofs.Qxb6612720a
open Go.ChangeShapes Go.WideShapes Go.ChangeAt Go.RowKit
set_option maxRecDepth 100000

section
variable {H : Type} {enc : TypeId × Value → H} {w : World}

theorem cells60 : Try.prog.cellsOf 60 = 2 := by kernel_rfl
theorem cells63 : Try.prog.cellsOf 63 = 2 := by kernel_rfl
theorem cells65 : Try.prog.cellsOf 65 = 3 := by kernel_rfl
theorem cells68 : Try.prog.cellsOf 68 = 2 := by kernel_rfl
theorem cells55 : Try.prog.cellsOf 55 = 1 := by kernel_rfl
theorem cells2 : Try.prog.cellsOf 2 = 1 := by kernel_rfl

theorem at_plain {a : Addr} {v : Value} (h : w.cell? a = some v) : ∃ b off, a = ⟨b, off, none⟩ := by
  obtain ⟨b, off, spot⟩ := a
  have hs : spot = none := by simpa using World.cell?_spot h
  subst hs
  exact ⟨b, off, rfl⟩

/-- A slice of refs that came in. -/
theorem open_refs {fuel : Nat} {v : Value} {x : DataW H × List MemPlace} (h : DataW.trod enc Try.prog w 0 (fun _ => true) true fuel 55 [v] = some x) :
    ∃ ra rc rs, v = .slice ra rs.length rc ∧ RefsIn w ra rs ∧ (∀ r ∈ rs, wfI r.1 r.2) ∧ rs.length ≤ rc ∧ (ra = none → rc = 0) := by
  rcases Deep.open_slice Try.underlying55 h with ⟨hc, _⟩ | ⟨ad, len, cap, m, n, D, Pl, hc, _, hlc, _, hm, _, hx⟩
  · simp at hc
    exact ⟨none, 0, [], hc, Or.inl rfl, by simp, Nat.le_refl _, fun _ => rfl⟩
  · simp at hc
    simp at hm
    have each : ∀ i, i < len → ∃ p : Int × Int, (w.cell? (ad.add (i * 2)) = some (.int .i64 p.1) ∧ w.cell? (ad.add (i * 2 + 1)) = some (.int .i64 p.2)) ∧ wfI p.1 p.2 := by
      intro i hi
      obtain ⟨cs', h1, h2⟩ := hx i (by omega)
      rw [cells60] at h1
      obtain ⟨_, hlen, hcell⟩ := World.cells?_some h1
      obtain ⟨xs, k, _, _, _, hxl, hf⟩ := DataW.trod_struct Try.underlying60 h2
      have hxl' : xs.length = 2 := by simpa using hxl
      match cs', hlen with
      | [v0, v1], _ =>
        have g0 := hf 0 _ rfl
        have g1 := hf 1 _ rfl
        simp [cells3] at g0 g1
        have e0 := hcell 0 (by omega)
        have e1 := hcell 1 (by omega)
        rw [Deep.add_add] at e0 e1
        rw [List.getElem?_eq_getElem (by omega)] at g0 g1
        obtain ⟨f0, ef0, _, w0⟩ := DataW.trod_int Try.underlying3 g0
        obtain ⟨f1, ef1, _, w1⟩ := DataW.trod_int Try.underlying3 g1
        simp at ef0 ef1
        subst ef0 ef1
        exact ⟨(f0, f1), ⟨by simpa using e0, by simpa using e1⟩, w0, w1⟩
    obtain ⟨g, hg⟩ := Deep.choose_lt each
    refine ⟨some ad, cap, (List.range len).map g, by simpa using hc, ?_, fun r hr => ?_, by simpa using hlc, fun e => by cases e⟩
    · by_cases h0 : len = 0
      · subst h0
        exact Or.inl rfl
      · obtain ⟨b, off, hb⟩ := at_plain (hg 0 (by omega)).1.1
        have hb' : ad = ⟨b, off, none⟩ := by simpa [Addr.add] using hb
        subst hb'
        refine Or.inr ⟨b, off, rfl, fun i hi => ?_⟩
        have hi' : i < len := by simpa using hi
        have := (hg i hi').1
        rw [add_plain, add_plain] at this
        simpa [Nat.add_assoc] using this
    · obtain ⟨i, hi, rfl⟩ := List.mem_map.1 hr
      exact (hg i (by simpa using hi)).2

/-- A slice of windows that came in. -/
theorem open_wins {fuel : Nat} {a : Option Addr} {len cap : Nat} {x : DataW H × List MemPlace} (h : DataW.trod enc Try.prog w 0 (fun _ => true) true fuel 50 [.slice a len cap] = some x) :
    ∃ ws : List (Int × Int), ws.length = len ∧ WinIn w a ws := by
  rcases Deep.open_slice Try.underlying50 h with ⟨hc, _⟩ | ⟨ad, l, c, m, n, D, Pl, hc, _, hlc, _, hm, _, hx⟩
  · simp at hc
    obtain ⟨rfl, rfl, rfl⟩ := hc
    exact ⟨[], rfl, Or.inl rfl⟩
  · simp at hc
    obtain ⟨rfl, rfl, rfl⟩ := hc
    simp at hm
    have each : ∀ i, i < len → ∃ p : Int × Int, w.cell? (ad.add (i * 2)) = some (.int .i64 p.1) ∧ w.cell? (ad.add (i * 2 + 1)) = some (.int .i64 p.2) := by
      intro i hi
      obtain ⟨cs', h1, h2⟩ := hx i (by omega)
      rw [cells63] at h1
      obtain ⟨_, hlen, hcell⟩ := World.cells?_some h1
      obtain ⟨xs, k, _, _, _, hxl, hf⟩ := DataW.trod_struct Try.underlying63 h2
      have hxl' : xs.length = 2 := by simpa using hxl
      match cs', hlen with
      | [v0, v1], _ =>
        have g0 := hf 0 _ rfl
        have g1 := hf 1 _ rfl
        simp [cells2] at g0 g1
        have e0 := hcell 0 (by omega)
        have e1 := hcell 1 (by omega)
        rw [Deep.add_add] at e0 e1
        rw [List.getElem?_eq_getElem (by omega)] at g0 g1
        obtain ⟨f0, ef0, _, _⟩ := DataW.trod_int Try.underlying2 g0
        obtain ⟨f1, ef1, _, _⟩ := DataW.trod_int Try.underlying2 g1
        simp at ef0 ef1
        subst ef0 ef1
        exact ⟨(f0, f1), by simpa using e0, by simpa using e1⟩
    obtain ⟨g, hg⟩ := Deep.choose_lt each
    refine ⟨(List.range len).map g, by simp, ?_⟩
    by_cases h0 : len = 0
    · subst h0
      exact Or.inl rfl
    · obtain ⟨b, off, hb⟩ := at_plain (hg 0 (by omega)).1
      have hb' : ad = ⟨b, off, none⟩ := by simpa [Addr.add] using hb
      subst hb'
      refine Or.inr ⟨b, off, rfl, fun i hi => ?_⟩
      have hi' : i < len := by simpa using hi
      have := hg i hi'
      rw [add_plain, add_plain] at this
      simpa [Nat.add_assoc] using this

/-- A slice of listed entries that came in. -/
theorem open_listed {fuel : Nat} {a : Option Addr} {len cap : Nat} {x : DataW H × List MemPlace} (h : DataW.trod enc Try.prog w 0 (fun _ => true) true fuel 51 [.slice a len cap] = some x) :
    ∃ ls : List (ByteArray × ByteArray × List (Int × Int)), ls.length = len ∧ ListedIn w a ls ∧ (∀ k (h : k < ls.length), ∀ r ∈ (ls[k]).2.2, wfI r.1 r.2) ∧ (∀ b off, a = some ⟨b, off, none⟩ → ∀ i, i < ls.length → ∀ ra n c, w.cell? ⟨b, off + i * 3 + 2, none⟩ = some (.slice ra n c) → n ≤ c ∧ (ra = none → c = 0)) := by
  rcases Deep.open_slice Try.underlying51 h with ⟨hc, _⟩ | ⟨ad, l, c, m, n, D, Pl, hc, _, hlc, _, hm, _, hx⟩
  · simp at hc
    obtain ⟨rfl, rfl, rfl⟩ := hc
    exact ⟨[], rfl, Or.inl rfl, fun k hk => absurd hk (by simp), fun b off e => by cases e⟩
  · simp at hc
    obtain ⟨rfl, rfl, rfl⟩ := hc
    simp at hm
    have each : ∀ i, i < len → ∃ p : ByteArray × ByteArray × List (Int × Int), w.cell? (ad.add (i * 3)) = some (.string p.1) ∧ w.cell? (ad.add (i * 3 + 1)) = some (.string p.2.1) ∧ (∃ ra rc, w.cell? (ad.add (i * 3 + 2)) = some (.slice ra p.2.2.length rc) ∧ RefsIn w ra p.2.2 ∧ p.2.2.length ≤ rc ∧ (ra = none → rc = 0)) ∧ ∀ r ∈ p.2.2, wfI r.1 r.2 := by
      intro i hi
      obtain ⟨cs', h1, h2⟩ := hx i (by omega)
      rw [cells65] at h1
      obtain ⟨_, hlen, hcell⟩ := World.cells?_some h1
      obtain ⟨xs, k, _, _, _, hxl, hf⟩ := DataW.trod_struct Try.underlying65 h2
      have hxl' : xs.length = 3 := by simpa using hxl
      match cs', hlen with
      | [v0, v1, v2], _ =>
        have g0 := hf 0 _ rfl
        have g1 := hf 1 _ rfl
        have g2 := hf 2 _ rfl
        simp [cells9, cells55] at g0 g1 g2
        have e0 := hcell 0 (by omega)
        have e1 := hcell 1 (by omega)
        have e2 := hcell 2 (by omega)
        rw [Deep.add_add] at e0 e1 e2
        rw [List.getElem?_eq_getElem (by omega)] at g0 g1 g2
        obtain ⟨f0, ef0, _, _⟩ := DataW.trod_string Try.underlying9 g0
        obtain ⟨f1, ef1, _, _⟩ := DataW.trod_string Try.underlying9 g1
        simp at ef0 ef1
        subst ef0 ef1
        obtain ⟨ra, rc, rs, rfl, k1, k2, k3, k4⟩ := open_refs g2
        exact ⟨(f0, f1, rs), by simpa using e0, by simpa using e1, ⟨ra, rc, by simpa using e2, k1, k3, k4⟩, k2⟩
    obtain ⟨g, hg⟩ := Deep.choose_lt each
    by_cases h0 : len = 0
    · subst h0
      exact ⟨[], rfl, Or.inl rfl, fun k hk => absurd hk (by simp), fun b off _ i hi => absurd hi (by simp)⟩
    · obtain ⟨b, off, hb⟩ := at_plain (hg 0 (by omega)).1
      have hb' : ad = ⟨b, off, none⟩ := by simpa [Addr.add] using hb
      subst hb'
      refine ⟨(List.range len).map g, by simp, Or.inr ⟨b, off, rfl, fun i hi => ?_⟩, fun i hi => ?_, fun b' off' e i hi ra n c hc => ?_⟩
      · have hi' : i < len := by simpa using hi
        obtain ⟨k1, k2, ⟨ra, rc, k3, k4, _⟩, _⟩ := hg i hi'
        rw [add_plain] at k1 k2 k3
        have e : ((List.range len).map g)[i] = g i := by simp
        rw [e]
        exact ⟨by simpa using k1, by simpa [Nat.add_assoc] using k2, ra, rc, by simpa [Nat.add_assoc] using k3, k4⟩
      · have hi' : i < len := by simpa using hi
        have e : ((List.range len).map g)[i] = g i := by simp
        rw [e]
        exact (hg i hi').2.2.2
      · cases e
        have hi' : i < len := by simpa using hi
        obtain ⟨k1, k2, ⟨ra', rc', k3, k4, k5, k6⟩, _⟩ := hg i hi'
        rw [add_plain] at k3
        rw [Nat.add_assoc] at hc
        rw [k3] at hc
        cases hc
        exact ⟨k5, k6⟩

/-- A slice of unlisted entries that came in. -/
theorem open_unlisted {fuel : Nat} {a : Option Addr} {len cap : Nat} {x : DataW H × List MemPlace} (h : DataW.trod enc Try.prog w 0 (fun _ => true) true fuel 52 [.slice a len cap] = some x) :
    ∃ us : List (ByteArray × List (Int × Int)), us.length = len ∧ UnlistedIn w a us ∧ (∀ k (h : k < us.length), ∀ r ∈ (us[k]).2, wfI r.1 r.2) ∧ (∀ b off, a = some ⟨b, off, none⟩ → ∀ i, i < us.length → ∀ ra n c, w.cell? ⟨b, off + i * 2 + 1, none⟩ = some (.slice ra n c) → n ≤ c ∧ (ra = none → c = 0)) := by
  rcases Deep.open_slice Try.underlying52 h with ⟨hc, _⟩ | ⟨ad, l, c, m, n, D, Pl, hc, _, hlc, _, hm, _, hx⟩
  · simp at hc
    obtain ⟨rfl, rfl, rfl⟩ := hc
    exact ⟨[], rfl, Or.inl rfl, fun k hk => absurd hk (by simp), fun b off e => by cases e⟩
  · simp at hc
    obtain ⟨rfl, rfl, rfl⟩ := hc
    simp at hm
    have each : ∀ i, i < len → ∃ p : ByteArray × List (Int × Int), w.cell? (ad.add (i * 2)) = some (.string p.1) ∧ (∃ ra rc, w.cell? (ad.add (i * 2 + 1)) = some (.slice ra p.2.length rc) ∧ RefsIn w ra p.2 ∧ p.2.length ≤ rc ∧ (ra = none → rc = 0)) ∧ ∀ r ∈ p.2, wfI r.1 r.2 := by
      intro i hi
      obtain ⟨cs', h1, h2⟩ := hx i (by omega)
      rw [cells68] at h1
      obtain ⟨_, hlen, hcell⟩ := World.cells?_some h1
      obtain ⟨xs, k, _, _, _, hxl, hf⟩ := DataW.trod_struct Try.underlying68 h2
      have hxl' : xs.length = 2 := by simpa using hxl
      match cs', hlen with
      | [v0, v2], _ =>
        have g0 := hf 0 _ rfl
        have g2 := hf 1 _ rfl
        simp [cells9, cells55] at g0 g2
        have e0 := hcell 0 (by omega)
        have e2 := hcell 1 (by omega)
        rw [Deep.add_add] at e0 e2
        rw [List.getElem?_eq_getElem (by omega)] at g0 g2
        obtain ⟨f0, ef0, _, _⟩ := DataW.trod_string Try.underlying9 g0
        simp at ef0
        subst ef0
        obtain ⟨ra, rc, rs, rfl, k1, k2, k3, k4⟩ := open_refs g2
        exact ⟨(f0, rs), by simpa using e0, ⟨ra, rc, by simpa using e2, k1, k3, k4⟩, k2⟩
    obtain ⟨g, hg⟩ := Deep.choose_lt each
    by_cases h0 : len = 0
    · subst h0
      exact ⟨[], rfl, Or.inl rfl, fun k hk => absurd hk (by simp), fun b off _ i hi => absurd hi (by simp)⟩
    · obtain ⟨b, off, hb⟩ := at_plain (hg 0 (by omega)).1
      have hb' : ad = ⟨b, off, none⟩ := by simpa [Addr.add] using hb
      subst hb'
      refine ⟨(List.range len).map g, by simp, Or.inr ⟨b, off, rfl, fun i hi => ?_⟩, fun i hi => ?_, fun b' off' e i hi ra n c hc => ?_⟩
      · have hi' : i < len := by simpa using hi
        obtain ⟨k1, ⟨ra, rc, k3, k4, _⟩, _⟩ := hg i hi'
        rw [add_plain] at k1 k3
        have e : ((List.range len).map g)[i] = g i := by simp
        rw [e]
        exact ⟨by simpa using k1, ra, rc, by simpa [Nat.add_assoc] using k3, k4⟩
      · have hi' : i < len := by simpa using hi
        have e : ((List.range len).map g)[i] = g i := by simp
        rw [e]
        exact (hg i hi').2.2
      · cases e
        have hi' : i < len := by simpa using hi
        obtain ⟨k1, ⟨ra', rc', k3, k4, k5, k6⟩, _⟩ := hg i hi'
        rw [add_plain] at k3
        rw [Nat.add_assoc] at hc
        rw [k3] at hc
        cases hc
        exact ⟨k5, k6⟩
/-- A ref that came in by value. -/
theorem open_two {fuel : Nat} {c0 c1 : Value} {x : DataW H × List MemPlace} (h : DataW.trod enc Try.prog w 0 (fun _ => true) true fuel 60 [c0, c1] = some x) : ∃ ex : Int × Int, c0 = .int .i64 ex.1 ∧ c1 = .int .i64 ex.2 ∧ wfI ex.1 ex.2 := by
  obtain ⟨xs, k, _, _, _, hxl, hff⟩ := DataW.trod_struct Try.underlying60 h
  have hxl' : xs.length = 2 := by simpa using hxl
  have g0 := hff 0 _ rfl
  have g1 := hff 1 _ rfl
  simp [cells3] at g0 g1
  rw [List.getElem?_eq_getElem (by omega)] at g0 g1
  obtain ⟨f0, ef0, _, x0⟩ := DataW.trod_int Try.underlying3 g0
  obtain ⟨f1, ef1, _, x1⟩ := DataW.trod_int Try.underlying3 g1
  simp at ef0 ef1
  subst ef0 ef1
  exact ⟨(f0, f1), rfl, rfl, x0, x1⟩

theorem two_of {cs : Array Value} (h : cs.size = 2) : ∃ c0 c1, cs = #[c0, c1] := by
  obtain ⟨l⟩ := cs
  match l, h with
  | [a, b], _ => exact ⟨a, b, rfl⟩

theorem open_ex {cs : Array Value} {d : DataW H} {ps : List MemPlace} (hcs : cs.size = 2) (h : DataW.Trod enc Try.prog w 0 (fun _ => true) true 60 (.agg cs) d ps) : ∃ ex : Int × Int, cs = #[.int .i64 ex.1, .int .i64 ex.2] ∧ wfI ex.1 ex.2 := by
  obtain ⟨c0, c1, rfl⟩ := two_of hcs
  obtain ⟨fuel, hf⟩ := h
  obtain ⟨ex, rfl, rfl, hw⟩ := open_two (c0 := c0) (c1 := c1) hf
  exact ⟨ex, rfl, hw⟩
end

/-! ### The row -/

theorem own : ownKnob Try.prog.godebug = none := by kernel_rfl

set_option maxHeartbeats 4000000 in
theorem lifted (os : Os) (started : os.Started) (H : Type) (enc : TypeId × Value → H) :
    ReturnsInHanded {} Try.checked os 5 .any (Rows.fnNumberIgnoresGrantsOfSetsNotValidNowSpec.pre6 enc Try.prog Try.f5 Rows.fnNumberIgnoresGrantsOfSetsNotValidNowRow.domain false) (Rows.fnNumberIgnoresGrantsOfSetsNotValidNowSpec.post enc Try.prog Try.f5 false true false false) := by
  refine returnsInHanded_of_change (C := Try.checked) own started (by kernel_rfl) Try.func5
    (ChangeSpec.witness6 (enc := enc) (C := Try.checked) false ⟨#[], #[.slice none 0 0, .slice none 0 0, .slice none 0 0, .int .i64 0, .int .i64 0, .int .i64 0, .agg #[.int .i64 0, .int .i64 0]], []⟩ 8 (by kernel_rfl) (by kernel_rfl) (by kernel_rfl) (by kernel_rfl)) ?_
  intro W base args ds gs before hval0 hW hcnd _
  have hval : ∀ (j : Nat) t v, Try.f5.params[j]? = some t → args[j]? = some v → Value.okWide Try.prog W .any base t v := hval0
  have hW' := hW
  obtain ⟨p, q, hA0, hV, rfl, hfz, hnd⟩ := hW
  have hA : DataW.TrodAll enc Try.prog W 0 (fun _ => true) true Try.f5.params.toList args.toList ds p := hA0
  rw [Try.params5] at hA hval
  obtain ⟨v0, vs0, d0, ds0, p0, q0, hargs, rfl, rfl, h0, r0⟩ := trodAll_cons hA
  obtain ⟨v1, vs1, d1, ds1, p1, q1, rfl, rfl, rfl, h1, r1⟩ := trodAll_cons r0
  obtain ⟨v2, vs2, d2, ds2, p2, q2, rfl, rfl, rfl, h2, r2⟩ := trodAll_cons r1
  obtain ⟨v3, vs3, d3, ds3, p3, q3, rfl, rfl, rfl, h3, r3⟩ := trodAll_cons r2
  obtain ⟨v4, vs4, d4, ds4, p4, q4, rfl, rfl, rfl, h4, r4⟩ := trodAll_cons r3
  obtain ⟨v5, vs5, d5, ds5, p5, q5, rfl, rfl, rfl, h5, r5⟩ := trodAll_cons r4
  obtain ⟨v6, vs6, d6, ds6, p6, q6, rfl, rfl, rfl, h6, r6⟩ := trodAll_cons r5
  obtain ⟨rfl, rfl, rfl⟩ := trodAll_nil r6
  obtain rfl : args = #[v0, v1, v2, v3, v4, v5, v6] := by cases args; simp_all
  obtain ⟨rfl, rfl⟩ := trodVars_none hV
  obtain ⟨a0, len0, cap0, rfl⟩ := okWide_slice Try.underlying50 (hval 0 50 v0 rfl rfl)
  obtain ⟨a1, len1, cap1, rfl⟩ := okWide_slice Try.underlying51 (hval 1 51 v1 rfl rfl)
  obtain ⟨a2, len2, cap2, rfl⟩ := okWide_slice Try.underlying52 (hval 2 52 v2 rfl rfl)
  obtain ⟨now, rfl, rfl, rfl, w3⟩ := open_int Try.underlying2 (hval 3 2 v3 rfl rfl) h3
  obtain ⟨which, rfl, rfl, rfl, w4⟩ := open_int Try.underlying3 (hval 4 3 v4 rfl rfl) h4
  obtain ⟨place, rfl, rfl, rfl, w5⟩ := open_int Try.underlying3 (hval 5 3 v5 rfl rfl) h5
  obtain ⟨cs6, rfl, hcs6⟩ := okWide_struct Try.underlying60 (hval 6 60 v6 rfl rfl)
  have k0 := h0
  have lt0 : ∀ x ∈ p0, x.block < W.heap.size := by obtain ⟨m, hm⟩ := k0; exact DataW.trod_lt m _ _ _ hm
  have k1 := h1
  have lt1 : ∀ x ∈ p1, x.block < W.heap.size := by obtain ⟨m, hm⟩ := k1; exact DataW.trod_lt m _ _ _ hm
  have k2 := h2
  have lt2 : ∀ x ∈ p2, x.block < W.heap.size := by obtain ⟨m, hm⟩ := k2; exact DataW.trod_lt m _ _ _ hm
  have k6 := h6
  have lt6 : ∀ x ∈ p6, x.block < W.heap.size := by obtain ⟨m, hm⟩ := k6; exact DataW.trod_lt m _ _ _ hm
  obtain ⟨ws, ews, iws⟩ : ∃ ws : List (Int × Int), ws.length = len0 ∧ WinIn W a0 ws := by
    obtain ⟨fuel, hf⟩ := h0
    exact open_wins (by simpa [Value.cells] using hf)
  obtain ⟨ls, els, ils, wls, cls⟩ : ∃ ls : List (ByteArray × ByteArray × List (Int × Int)), ls.length = len1 ∧ ListedIn W a1 ls ∧ (∀ k (h : k < ls.length), ∀ r ∈ (ls[k]).2.2, wfI r.1 r.2) ∧ (∀ b off, a1 = some ⟨b, off, none⟩ → ∀ i, i < ls.length → ∀ ra n c, W.cell? ⟨b, off + i * 3 + 2, none⟩ = some (.slice ra n c) → n ≤ c ∧ (ra = none → c = 0)) := by
    obtain ⟨fuel, hf⟩ := h1
    exact open_listed (by simpa [Value.cells] using hf)
  obtain ⟨us, eus, ius, wus, cus⟩ : ∃ us : List (ByteArray × List (Int × Int)), us.length = len2 ∧ UnlistedIn W a2 us ∧ (∀ k (h : k < us.length), ∀ r ∈ (us[k]).2, wfI r.1 r.2) ∧ (∀ b off, a2 = some ⟨b, off, none⟩ → ∀ i, i < us.length → ∀ ra n c, W.cell? ⟨b, off + i * 2 + 1, none⟩ = some (.slice ra n c) → n ≤ c ∧ (ra = none → c = 0)) := by
    obtain ⟨fuel, hf⟩ := h2
    exact open_unlisted (by simpa [Value.cells] using hf)
  obtain ⟨ex, rfl, wex⟩ := open_ex (hcs6.trans cells60) h6
  clear hA0 hval0
  subst ews els eus
  refine (law_calls W a0 a1 a2 cap0 cap1 cap2 ws ls us now which place ex iws ils ius wls wus wex cls cus).mono fun e W' ⟨he, bel⟩ => ?_
  subst he
  exact ⟨_, rfl, _, _, _, [], _, [], hW', trodAll_mk1 (shut_bool Try.underlying4 _), (trodAll_cons_mk (Below.trod laidOut (by kernel_rfl) (of_decide_eq_true (by kernel_rfl)) k0 bel lt0) (trodAll_cons_mk (Below.trod laidOut (by kernel_rfl) (of_decide_eq_true (by kernel_rfl)) k1 bel lt1) (trodAll_cons_mk (Below.trod laidOut (by kernel_rfl) (of_decide_eq_true (by kernel_rfl)) k2 bel lt2) (trodAll_cons_mk (shut_int Try.underlying2 w3) (trodAll_cons_mk (shut_int Try.underlying3 w4) (trodAll_cons_mk (shut_int Try.underlying3 w5) (trodAll_cons_mk (Below.trod laidOut (by kernel_rfl) (of_decide_eq_true (by kernel_rfl)) k6 bel lt6) trodAll_mk0))))))), rfl, bel.frame _, fun h => by cases h⟩

theorem over : Rows.fnNumberIgnoresGrantsOfSetsNotValidNowRow.holds Try.pinned (OpenSpec.ofChange Rows.fnNumberIgnoresGrantsOfSetsNotValidNowSpec) :=
  OpenClaim.holds_of_wide 5 Try.f5 rfl rfl rfl rfl rfl rfl rfl ⟨rfl, rfl, rfl, rfl, rfl⟩ rfl rfl rfl rfl rfl (by kernel_rfl) Try.func5 (by kernel_rfl)
    (of_decide_eq_true (by kernel_rfl)) (by unfold Func.isWrapper; first | (rw [if_pos (by decide +kernel)]; kernel_rfl) | (rw [if_neg (by decide +kernel)]; exact ⟨rfl, rfl⟩))
    (fun os started H enc _ => lifted os started H enc)

/-- ████ THE STATEMENT ████ -/
theorem numberIgnores_proved : Rows.FnNumberIgnoresGrantsOfSetsNotValidNowSaid := over
end Go.Proofs.Qxb6612720a
