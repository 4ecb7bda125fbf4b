/-
  DERIVED. THE PROOF OF 'Rows.FnLoseOrderFreeSaid': from the walks (Qxb6602500aLaw, Qxb6602500aLawNo) to the given statement.
-/
import Derived.Test.Qxb6602500aLaw
import Derived.ProofKit
import Derived.OpenShut
import Derived.ShutString
import Derived.ChangeOld
import Derived.Deep.SlicePairs
namespace Go.Proofs.Qxb6602500a
open Go.ChangeShapes Go.WideShapes Go.ChangeAt Go.RowKit
set_option maxRecDepth 100000

section
variable {H : Type} {enc : TypeId × Value → H} {w : World}

theorem at_plain {a : Addr} {v : Value} (h : w.cell? a = some v) : ∃ b off, a = ⟨b, off, none⟩ := by
  obtain ⟨b, off, spot⟩ := a
  have hs : spot = none := by simpa using World.cell?_spot h
  subst hs
  exact ⟨b, off, rfl⟩

/-- A slice of give-ups that came in. -/
theorem open_lost {fuel : Nat} {a : Option Addr} {len cap : Nat} {x : DataW H × List MemPlace} (h : DataW.trod enc Try.prog w 0 (fun _ => true) true fuel 22 [.slice a len cap] = some x) :
    ∃ ls : List (Int × Int), ls.length = len ∧ InL w a ls ∧ (a = none → ls = []) := by
  rcases Deep.open_slice Try.underlying22 h with ⟨hc, _⟩ | ⟨ad, l, c, m, n, D, Pl, hc, _, hlc, _, hm, _, hx⟩
  · simp at hc
    obtain ⟨rfl, rfl, rfl⟩ := hc
    exact ⟨[], rfl, Or.inl rfl, fun _ => rfl⟩
  · simp at hc
    obtain ⟨rfl, rfl, rfl⟩ := hc
    simp at hm
    have ce : Try.prog.cellsOf 67 = 2 := by kernel_rfl
    have each : ∀ i, i < len → ∃ p : Int × Int, w.cell? (ad.add (i * 2)) = some (.int .u64 p.1) ∧ w.cell? (ad.add (i * 2 + 1)) = some (.int .u64 p.2) := by
      intro i hi
      obtain ⟨cs', h1, h2⟩ := hx i (by omega)
      rw [ce] at h1
      obtain ⟨_, hlen, hcell⟩ := World.cells?_some h1
      obtain ⟨xs, k, _, _, _, _, hf⟩ := DataW.trod_struct Try.underlying67 h2
      match cs', hlen with
      | [v0, v1], _ =>
        have g0 := hf 0 _ rfl
        have g1 := hf 1 _ rfl
        simp [cells24] at g0 g1
        have e0 := hcell 0 (by omega)
        have e1 := hcell 1 (by omega)
        rw [Deep.add_add] at e0 e1
        obtain ⟨y0, hy0⟩ : ∃ y0, DataW.trod enc Try.prog w 0 (fun _ => true) true k 24 [v0] = some y0 := by
          rw [g0, List.getElem?_eq_getElem (by have : xs.length = 2 := by simpa using ‹xs.length = _›
                                               omega)]
          exact ⟨_, rfl⟩
        obtain ⟨y1, hy1⟩ : ∃ y1, DataW.trod enc Try.prog w 0 (fun _ => true) true k 24 [v1] = some y1 := by
          rw [g1, List.getElem?_eq_getElem (by have : xs.length = 2 := by simpa using ‹xs.length = _›
                                               omega)]
          exact ⟨_, rfl⟩
        obtain ⟨f, ef, _, _⟩ := DataW.trod_int Try.underlying24 hy0
        obtain ⟨l, el, _, _⟩ := DataW.trod_int Try.underlying24 hy1
        simp at ef el
        subst ef el
        exact ⟨(f, l), by simpa using e0, by simpa using e1⟩
    obtain ⟨g, hg⟩ := Deep.choose_lt each
    refine ⟨(List.range len).map g, by simp, ?_, fun e => by cases e⟩
    by_cases h0 : len = 0
    · subst h0
      exact Or.inl rfl
    · obtain ⟨b, off, hb⟩ := at_plain (hg 0 (by omega)).1
      have hb' : ad = ⟨b, off, none⟩ := by simpa [Addr.add] using hb
      subst hb'
      refine Or.inr ⟨b, off, rfl, fun i hi => ?_⟩
      have hi' : i < len := by simpa using hi
      have := hg i hi'
      rw [add_plain, add_plain] at this
      simpa [Nat.add_assoc] using this

/-- A slice of waits that came in. -/
theorem open_waits {fuel : Nat} {a : Option Addr} {len cap : Nat} {x : DataW H × List MemPlace} (h : DataW.trod enc Try.prog w 0 (fun _ => true) true fuel 23 [.slice a len cap] = some x) :
    ∃ ws : List (Int × Int × Int × Int), ws.length = len ∧ InW w a ws ∧ (a = none → ws = []) ∧ ∀ p ∈ ws, wfI p.1 p.2.1 ∧ wfI p.2.2.1 p.2.2.2 := by
  rcases Deep.open_slice Try.underlying23 h with ⟨hc, _⟩ | ⟨ad, l, c, m, n, D, Pl, hc, _, hlc, _, hm, _, hx⟩
  · simp at hc
    obtain ⟨rfl, rfl, rfl⟩ := hc
    exact ⟨[], rfl, Or.inl rfl, fun _ => rfl, fun p hp => by cases hp⟩
  · simp at hc
    obtain ⟨rfl, rfl, rfl⟩ := hc
    simp at hm
    have ce : Try.prog.cellsOf 34 = 4 := by kernel_rfl
    have each : ∀ i, i < len → ∃ p : Int × Int × Int × Int, (w.cell? (ad.add (i * 4)) = some (.int .i64 p.1) ∧ w.cell? (ad.add (i * 4 + 1)) = some (.int .u64 p.2.1) ∧ w.cell? (ad.add (i * 4 + 2)) = some (.int .i64 p.2.2.1) ∧ w.cell? (ad.add (i * 4 + 3)) = some (.int .u64 p.2.2.2)) ∧ wfI p.1 p.2.1 ∧ wfI p.2.2.1 p.2.2.2 := by
      intro i hi
      obtain ⟨cs', h1, h2⟩ := hx i (by omega)
      rw [ce] at h1
      obtain ⟨_, hlen, hcell⟩ := World.cells?_some h1
      obtain ⟨xs, k, _, _, _, hxl, hf⟩ := DataW.trod_struct Try.underlying34 h2
      have hxl' : xs.length = 4 := by simpa using hxl
      match cs', hlen with
      | [v0, v1, v2, v3], _ =>
        have g0 := hf 0 _ rfl
        have g1 := hf 1 _ rfl
        have g2 := hf 2 _ rfl
        have g3 := hf 3 _ rfl
        simp [cells24, cells3] at g0 g1 g2 g3
        have e0 := hcell 0 (by omega)
        have e1 := hcell 1 (by omega)
        have e2 := hcell 2 (by omega)
        have e3 := hcell 3 (by omega)
        rw [Deep.add_add] at e0 e1 e2 e3
        rw [List.getElem?_eq_getElem (by omega)] at g0 g1 g2 g3
        obtain ⟨f0, ef0, _, w0⟩ := DataW.trod_int Try.underlying3 g0
        obtain ⟨f1, ef1, _, w1⟩ := DataW.trod_int Try.underlying24 g1
        obtain ⟨f2, ef2, _, w2⟩ := DataW.trod_int Try.underlying3 g2
        obtain ⟨f3, ef3, _, w3⟩ := DataW.trod_int Try.underlying24 g3
        simp at ef0 ef1 ef2 ef3
        subst ef0 ef1 ef2 ef3
        exact ⟨(f0, f1, f2, f3), ⟨by simpa using e0, by simpa using e1, by simpa using e2, by simpa using e3⟩, ⟨w0, w1⟩, ⟨w2, w3⟩⟩
    obtain ⟨g, hg⟩ := Deep.choose_lt each
    refine ⟨(List.range len).map g, by simp, ?_, fun e => (by cases e), fun p hp => ?_⟩
    · by_cases h0 : len = 0
      · subst h0
        exact Or.inl rfl
      · obtain ⟨b, off, hb⟩ := at_plain (hg 0 (by omega)).1.1
        have hb' : ad = ⟨b, off, none⟩ := by simpa [Addr.add] using hb
        subst hb'
        refine Or.inr ⟨b, off, rfl, fun i hi => ?_⟩
        have hi' : i < len := by simpa using hi
        have := (hg i hi').1
        rw [add_plain, add_plain, add_plain, add_plain] at this
        simpa [Nat.add_assoc] using this
    · obtain ⟨i, hi, rfl⟩ := List.mem_map.1 hp
      exact (hg i (by simpa using hi)).2
end

/-! ### Both ways of the law -/

def fromW (x : Int × Int × Int × Int) : (Nat × Int) × (Nat × Int) := ((x.1.toNat, x.2.1), (x.2.2.1.toNat, x.2.2.2))

theorem walk (w : World) (size self : Int) (causal : Bool) (a1 a2 : Option Addr) (n1 n2 c1 c2 : Nat) (oA sA oB sB : Int) (ls : List (Int × Int)) (ws : List (Int × Int × Int × Int)) (e1 : ls.length = n1) (e2 : ws.length = n2)
    (hl : InL w a1 ls) (hn1 : a1 = none → ls = []) (hw : InW w a2 ws) (hn2 : a2 = none → ws = []) (hwf : ∀ p ∈ ws, wfI p.1 p.2.1 ∧ wfI p.2.2.1 p.2.2.2) (hA : wfI oA sA) (hB : wfI oB sB) :
    Calls Try.prog 4 #[.int .i64 size, .int .i64 self, .bool causal, .slice a1 n1 c1, .slice a2 n2 c2, .int .i64 oA, .int .u64 sA, .int .i64 oB, .int .u64 sB] w fun e w' => e = .returned (.bool true) ∧ Below w.heap.size w w' := by
  subst e1 e2
  by_cases hc : Cond size ls.length ws.length oA sA oB sB ws
  · obtain ⟨k1, k2, k3, k4, k5, k6, k7, k8, k9, k10, k11, k12, k13⟩ := hc
    obtain ⟨sz, rfl⟩ := Int.eq_ofNat_of_zero_le (show 0 ≤ size by omega)
    obtain ⟨pA, rfl⟩ := Int.eq_ofNat_of_zero_le k7
    obtain ⟨pB, rfl⟩ := Int.eq_ofNat_of_zero_le k10
    have hin : ∀ p ∈ ws, 0 ≤ p.1 ∧ p.1 < sz ∧ 0 ≤ p.2.2.1 ∧ p.2.2.1 < sz ∧ p.2.2.2 ≠ 0 := fun p hp => of_decide_eq_true (List.all_eq_true.1 k13 p hp)
    have hmap : (ws.map fromW).map toW = ws := by
      rw [List.map_map]
      conv => rhs; rw [← List.map_id ws]
      refine List.map_congr_left fun p hp => ?_
      obtain ⟨q1, _, q3, _⟩ := hin p hp
      obtain ⟨p0, p1, p2, p3⟩ := p
      simp only at q1 q3
      simp only [Function.comp, toW, fromW, id]
      rw [Int.toNat_of_nonneg q1, Int.toNat_of_nonneg q3]
    have := law_yes w sz self causal a1 a2 c1 c2 pA sA pB sB ls (ws.map fromW) hl hn1 (by rw [hmap]; exact hw) (fun e => by rw [hn2 e]; rfl) k1 (by simpa using k2) (by simpa using k3) (by omega) (by omega) (by omega) (by omega) k9 (by omega) k12 hA hB (by rw [hmap]; exact k13) (fun p hp => by
      obtain ⟨x, hx, rfl⟩ := List.mem_map.1 hp
      obtain ⟨q1, q2, q3, q4, q5⟩ := hin x hx
      obtain ⟨r1, r2⟩ := hwf x hx
      refine ⟨?_, ?_, ?_, ?_, q5⟩
      · unfold wfN fromW; simp only; rw [Int.toNat_of_nonneg q1]; exact r1
      · unfold fromW; simp only; omega
      · unfold fromW; simp only; omega
      · unfold wfN fromW; simp only; rw [Int.toNat_of_nonneg q3]; exact r2)
    rw [List.length_map] at this
    exact this
  · exact law_no w size self causal a1 a2 ls.length c1 c2 oA sA oB sB ws hw hc

/-! ### The row -/

theorem own : ownKnob Try.prog.godebug = none := by kernel_rfl

theorem lifted (os : Os) (started : os.Started) (H : Type) (enc : TypeId × Value → H) :
    ReturnsInHanded {} Try.checked os 4 .any (Rows.fnLoseOrderFreeSpec.pre6 enc Try.prog Try.f4 Rows.fnLoseOrderFreeRow.domain false) (Rows.fnLoseOrderFreeSpec.post enc Try.prog Try.f4 false true false false) := by
  refine returnsInHanded_of_change (C := Try.checked) own started (by kernel_rfl) Try.func4
    (ChangeSpec.witness6 (enc := enc) (C := Try.checked) false ⟨#[], #[.int .i64 0, .int .i64 0, .bool false, .slice none 0 0, .slice none 0 0, .int .i64 0, .int .u64 0, .int .i64 0, .int .u64 0], []⟩ 8 (by kernel_rfl) (by kernel_rfl) (by kernel_rfl) (by kernel_rfl)) ?_
  intro W base args ds gs before hval0 hW hcnd _
  have hval : ∀ (j : Nat) t v, Try.f4.params[j]? = some t → args[j]? = some v → Value.okWide Try.prog W .any base t v := hval0
  have hW' := hW
  obtain ⟨p, q, hA0, hV, rfl, hfz, hnd⟩ := hW
  have hA : DataW.TrodAll enc Try.prog W 0 (fun _ => true) true Try.f4.params.toList args.toList ds p := hA0
  rw [Try.params4] at hA hval
  obtain ⟨v0, vs0, d0, ds0, p0, q0, hargs, rfl, rfl, h0, r0⟩ := trodAll_cons hA
  obtain ⟨v1, vs1, d1, ds1, p1, q1, rfl, rfl, rfl, h1, r1⟩ := trodAll_cons r0
  obtain ⟨v2, vs2, d2, ds2, p2, q2, rfl, rfl, rfl, h2, r2⟩ := trodAll_cons r1
  obtain ⟨v3, vs3, d3, ds3, p3, q3, rfl, rfl, rfl, h3, r3⟩ := trodAll_cons r2
  obtain ⟨v4, vs4, d4, ds4, p4, q4, rfl, rfl, rfl, h4, r4⟩ := trodAll_cons r3
  obtain ⟨v5, vs5, d5, ds5, p5, q5, rfl, rfl, rfl, h5, r5⟩ := trodAll_cons r4
  obtain ⟨v6, vs6, d6, ds6, p6, q6, rfl, rfl, rfl, h6, r6⟩ := trodAll_cons r5
  obtain ⟨v7, vs7, d7, ds7, p7, q7, rfl, rfl, rfl, h7, r7⟩ := trodAll_cons r6
  obtain ⟨v8, vs8, d8, ds8, p8, q8, rfl, rfl, rfl, h8, r8⟩ := trodAll_cons r7
  obtain ⟨rfl, rfl, rfl⟩ := trodAll_nil r8
  obtain rfl : args = #[v0, v1, v2, v3, v4, v5, v6, v7, v8] := by cases args; simp_all
  obtain ⟨rfl, rfl⟩ := trodVars_none hV
  obtain ⟨size, rfl, rfl, rfl, w0⟩ := open_int Try.underlying3 (hval 0 3 v0 rfl rfl) h0
  obtain ⟨self, rfl, rfl, rfl, w1⟩ := open_int Try.underlying3 (hval 1 3 v1 rfl rfl) h1
  obtain ⟨causal, rfl, rfl, rfl⟩ := open_bool Try.underlying4 (hval 2 4 v2 rfl rfl) h2
  obtain ⟨a3, len3, cap3, rfl⟩ := okWide_slice Try.underlying22 (hval 3 22 v3 rfl rfl)
  obtain ⟨a4, len4, cap4, rfl⟩ := okWide_slice Try.underlying23 (hval 4 23 v4 rfl rfl)
  obtain ⟨oA, rfl, rfl, rfl, w5⟩ := open_int Try.underlying3 (hval 5 3 v5 rfl rfl) h5
  obtain ⟨sA, rfl, rfl, rfl, w6⟩ := open_int Try.underlying24 (hval 6 24 v6 rfl rfl) h6
  obtain ⟨oB, rfl, rfl, rfl, w7⟩ := open_int Try.underlying3 (hval 7 3 v7 rfl rfl) h7
  obtain ⟨sB, rfl, rfl, rfl, w8⟩ := open_int Try.underlying24 (hval 8 24 v8 rfl rfl) h8
  have k3 := h3
  have lt3 : ∀ x ∈ p3, x.block < W.heap.size := by obtain ⟨m, hm⟩ := k3; exact DataW.trod_lt m _ _ _ hm
  have k4 := h4
  have lt4 : ∀ x ∈ p4, x.block < W.heap.size := by obtain ⟨m, hm⟩ := k4; exact DataW.trod_lt m _ _ _ hm
  obtain ⟨ls, el, il, nl⟩ : ∃ ls : List (Int × Int), ls.length = len3 ∧ InL W a3 ls ∧ (a3 = none → ls = []) := by
    obtain ⟨fuel, hf⟩ := h3
    exact open_lost (by simpa [Value.cells] using hf)
  obtain ⟨ws, ew, iw, nw, wfw⟩ : ∃ ws : List (Int × Int × Int × Int), ws.length = len4 ∧ InW W a4 ws ∧ (a4 = none → ws = []) ∧ ∀ p ∈ ws, wfI p.1 p.2.1 ∧ wfI p.2.2.1 p.2.2.2 := by
    obtain ⟨fuel, hf⟩ := h4
    exact open_waits (by simpa [Value.cells] using hf)
  clear hA0 hval0
  refine (walk W size self causal a3 a4 len3 len4 cap3 cap4 oA sA oB sB ls ws el ew il nl iw nw wfw ⟨w5, w6⟩ ⟨w7, w8⟩).mono fun e W' ⟨he, bel⟩ => ?_
  subst he
  exact ⟨_, rfl, _, _, _, [], _, [], hW', trodAll_mk1 (shut_bool Try.underlying4 _), (trodAll_cons_mk (shut_int Try.underlying3 w0) (trodAll_cons_mk (shut_int Try.underlying3 w1) (trodAll_cons_mk (shut_bool Try.underlying4 _) (trodAll_cons_mk (Below.trod laidOut (by kernel_rfl) (of_decide_eq_true (by kernel_rfl)) k3 bel lt3) (trodAll_cons_mk (Below.trod laidOut (by kernel_rfl) (of_decide_eq_true (by kernel_rfl)) k4 bel lt4) (trodAll_cons_mk (shut_int Try.underlying3 w5) (trodAll_cons_mk (shut_int Try.underlying24 w6) (trodAll_cons_mk (shut_int Try.underlying3 w7) (trodAll_cons_mk (shut_int Try.underlying24 w8) trodAll_mk0))))))))), rfl, bel.frame _, fun h => by cases h⟩

theorem over : Rows.fnLoseOrderFreeRow.holds Try.pinned (OpenSpec.ofChange Rows.fnLoseOrderFreeSpec) :=
  OpenClaim.holds_of_wide 4 Try.f4 rfl rfl rfl rfl rfl rfl rfl ⟨rfl, rfl, rfl, rfl, rfl⟩ rfl rfl rfl rfl rfl (by kernel_rfl) Try.func4 (by kernel_rfl)
    (of_decide_eq_true (by kernel_rfl)) (by unfold Func.isWrapper; first | (rw [if_pos (by decide +kernel)]; kernel_rfl) | (rw [if_neg (by decide +kernel)]; exact ⟨rfl, rfl⟩))
    (fun os started H enc _ => lifted os started H enc)

/-- ████ THE STATEMENT ████ -/
theorem loseOrderFree_proved : Rows.FnLoseOrderFreeSaid := over
end Go.Proofs.Qxb6602500a
