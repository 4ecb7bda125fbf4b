import Derived.Test.Qxb6612720aOne
import Derived.Test.Qxb6612720aNbd
import Derived.Test.Qxb6612720aKe
namespace Go.Proofs.Qxb6612720a
open Go.RowKit
set_option maxRecDepth 100000

/-- What 'number' is handed: e, the sets, the two maps of lists. -/
structure NIn (w : World) (E SB FL FU nl nu : Nat) (q p : Value) (ws : List (Int × Int)) (DL DU : DataW Value) (mL mU : List (Lit × Value)) (LL LU : List (Lit × List (Int × Int))) : Prop where
  e : w.heap[E]? = some (.cells #[q, .slice (some ⟨SB, 0, none⟩) ws.length ws.length, .slice none 0 0, p] 102 (0, 0))
  sets : SetsIn w SB ws
  l : LsIn w 112 FL nl w.heap.size DL mL LL
  u : LsIn w 9 FU nu w.heap.size DU mU LU
  lw : ∀ x ∈ LL, x.2.all (inN ws.length) = true ∧ ∀ r ∈ x.2, wfI r.1 r.2
  uw : ∀ x ∈ LU, x.2.all (inN ws.length) = true ∧ ∀ r ∈ x.2, wfI r.1 r.2
  lb : (LL.flatMap (·.2)).length ≤ 100000
  ub : (LU.flatMap (·.2)).length ≤ 100000
  nl_ : nl ≤ 1048576
  nu_ : nu ≤ 1048576

/-- What it leaves. -/
def NOut (w w' : World) (E SB b1 b2 : Nat) (q p : Value) (ws : List (Int × Int)) (now : Int) (LL LU : List (Lit × List (Int × Int))) : Prop :=
  ∃ R rv, R.Nodup ∧ (∀ x, x ∈ R ↔ ((∃ l ∈ LL, x ∈ l.2) ∨ (∃ l ∈ LU, x ∈ l.2)) ∧ okW ws now x = true) ∧ R.length ≤ 200000 ∧ BsIn w' 112 b1 R LL ∧ BsIn w' 9 b2 R LU ∧
    w'.heap[E]? = some (.cells #[q, .slice (some ⟨SB, 0, none⟩) ws.length ws.length, rv, p] 102 (0, 0)) ∧ Own w' w.heap.size 118 rv R ∧ Ke E w w'

theorem num_start (w : World) (E SB FL FU : Nat) (q p : Value) (ws : List (Int × Int)) (now : Int) (he : w.heap[E]? = some (.cells #[q, .slice (some ⟨SB, 0, none⟩) ws.length ws.length, .slice none 0 0, p] 102 (0, 0))) (hs : SetsIn w SB ws) :
    NSt (((((w.alloc (Obj.cells #[Value.pointer (some ⟨E, 0, none⟩)] 96)).alloc (Obj.cells #[Value.map (some FL), Value.map (some FU)] 109)).alloc (Obj.cells #[Value.int IntKind.i64 now] 2)).alloc (Obj.map #[] 0)).alloc (Obj.cells #[Value.map (some (w.heap.size + 1 + 1 + 1))] 120)) E w.heap.size (w.heap.size + 1 + 1 + 1 + 1) (w.heap.size + 1 + 1) (w.heap.size + 1 + 1 + 1) SB w.heap.size q p ws now [] 0 ∧ (((((w.alloc (Obj.cells #[Value.pointer (some ⟨E, 0, none⟩)] 96)).alloc (Obj.cells #[Value.map (some FL), Value.map (some FU)] 109)).alloc (Obj.cells #[Value.int IntKind.i64 now] 2)).alloc (Obj.map #[] 0)).alloc (Obj.cells #[Value.map (some (w.heap.size + 1 + 1 + 1))] 120)).heap[w.heap.size + 1]? = some (.cells #[.map (some FL), .map (some FU)] 109 (0, 0)) ∧ Below w.heap.size w (((((w.alloc (Obj.cells #[Value.pointer (some ⟨E, 0, none⟩)] 96)).alloc (Obj.cells #[Value.map (some FL), Value.map (some FU)] 109)).alloc (Obj.cells #[Value.int IntKind.i64 now] 2)).alloc (Obj.map #[] 0)).alloc (Obj.cells #[Value.map (some (w.heap.size + 1 + 1 + 1))] 120)) := by
  have hb : Below w.heap.size w (((((w.alloc (Obj.cells #[Value.pointer (some ⟨E, 0, none⟩)] 96)).alloc (Obj.cells #[Value.map (some FL), Value.map (some FU)] 109)).alloc (Obj.cells #[Value.int IntKind.i64 now] 2)).alloc (Obj.map #[] 0)).alloc (Obj.cells #[Value.map (some (w.heap.size + 1 + 1 + 1))] 120)) := (((((Below.refl _ _).alloc (Nat.le_refl _) _).alloc (by simp) _).alloc (by simp; omega) _).alloc (by simp; omega) _).alloc (by simp; omega) _
  have hb4 : ((((w.alloc (Obj.cells #[Value.pointer (some ⟨E, 0, none⟩)] 96)).alloc (Obj.cells #[Value.map (some FL), Value.map (some FU)] 109)).alloc (Obj.cells #[Value.int IntKind.i64 now] 2)).heap.size = w.heap.size + 1 + 1 + 1) := by simp
  refine ⟨⟨⟨.slice none 0 0, (hb.block _ (lt_of_heap he)).trans he, Own.nil _ _ _⟩, ?_, ?_, ?_, hs.kept (hb.block _ hs.lt), ?_, by omega, by simp, by simp⟩, ?_, hb⟩
  · rw [Below.heap_alloc _ _ _ (by simp; omega), Below.heap_alloc _ _ _ (by simp; omega), Below.heap_alloc _ _ _ (by simp; omega), Below.heap_alloc _ _ _ (by simp)]
    exact new_block0 _ _ _ rfl
  · exact new_block0 _ _ _ (by simp)
  · rw [Below.heap_alloc _ _ _ (by simp), Below.heap_alloc _ _ _ (by simp)]
    exact new_block0 _ _ _ (by simp)
  · refine ⟨.map [], [], ?_, rfl, fun kl v => by simp⟩
    have h1 : MapIs ((((w.alloc (Obj.cells #[Value.pointer (some ⟨E, 0, none⟩)] 96)).alloc (Obj.cells #[Value.map (some FL), Value.map (some FU)] 109)).alloc (Obj.cells #[Value.int IntKind.i64 now] 2)).alloc (Obj.map #[] 0)) 118 (w.heap.size + 1 + 1 + 1) 0 (.map []) [] := by
      have h2 := World.ownsMap_made ((((w.alloc (Obj.cells #[Value.pointer (some ⟨E, 0, none⟩)] 96)).alloc (Obj.cells #[Value.map (some FL), Value.map (some FU)] 109)).alloc (Obj.cells #[Value.int IntKind.i64 now] 2))) Try.prog 118 rawR
      rw [hb4] at h2
      exact ⟨h2, fun l hl => by simp [Maps.has] at hl, fun e he => by simp at he, by simp⟩
    exact h1.later ((Below.refl _ _).alloc (Nat.le_refl _) _)
  · rw [Below.heap_alloc _ _ _ (by simp), Below.heap_alloc _ _ _ (by simp), Below.heap_alloc _ _ _ (by simp)]
    exact new_block0 _ _ _ (by simp)

set_option maxHeartbeats 4000000 in
theorem number_calls (w : World) (E SB FL FU nl nu : Nat) (q p : Value) (ws : List (Int × Int)) (now : Int) (DL DU : DataW Value) (mL mU : List (Lit × Value)) (LL LU : List (Lit × List (Int × Int)))
    (h : NIn w E SB FL FU nl nu q p ws DL DU mL mU LL LU) :
    Calls Try.prog 32 #[.pointer (some ⟨E, 0, none⟩), .agg #[.map (some FL), .map (some FU)], .int .i64 now] w fun e w' => ∃ b1 b2, e = .returned (.tuple #[.map (some b1), .map (some b2)]) ∧ NOut w w' E SB b1 b2 q p ws now LL LU := by
  have H0 : Hid (NIn w E SB FL FU nl nu q p ws DL DU mL mU LL LU) := h
  have HW : Hid (NSt (((((w.alloc (Obj.cells #[Value.pointer (some ⟨E, 0, none⟩)] 96)).alloc (Obj.cells #[Value.map (some FL), Value.map (some FU)] 109)).alloc (Obj.cells #[Value.int IntKind.i64 now] 2)).alloc (Obj.map #[] 0)).alloc (Obj.cells #[Value.map (some (w.heap.size + 1 + 1 + 1))] 120)) E w.heap.size (w.heap.size + 1 + 1 + 1 + 1) (w.heap.size + 1 + 1) (w.heap.size + 1 + 1 + 1) SB w.heap.size q p ws now [] 0 ∧ (((((w.alloc (Obj.cells #[Value.pointer (some ⟨E, 0, none⟩)] 96)).alloc (Obj.cells #[Value.map (some FL), Value.map (some FU)] 109)).alloc (Obj.cells #[Value.int IntKind.i64 now] 2)).alloc (Obj.map #[] 0)).alloc (Obj.cells #[Value.map (some (w.heap.size + 1 + 1 + 1))] 120)).heap[w.heap.size + 1]? = some (.cells #[.map (some FL), .map (some FU)] 109 (0, 0)) ∧ Below w.heap.size w (((((w.alloc (Obj.cells #[Value.pointer (some ⟨E, 0, none⟩)] 96)).alloc (Obj.cells #[Value.map (some FL), Value.map (some FU)] 109)).alloc (Obj.cells #[Value.int IntKind.i64 now] 2)).alloc (Obj.map #[] 0)).alloc (Obj.cells #[Value.map (some (w.heap.size + 1 + 1 + 1))] 120))) := num_start w E SB FL FU q p ws now h.e h.sets
  have HO : Hid ((((((w.alloc (Obj.cells #[Value.pointer (some ⟨E, 0, none⟩)] 96)).alloc (Obj.cells #[Value.map (some FL), Value.map (some FU)] 109)).alloc (Obj.cells #[Value.int IntKind.i64 now] 2)).alloc (Obj.map #[] 0)).alloc (Obj.cells #[Value.map (some (w.heap.size + 1 + 1 + 1))] 120)).ownsMap Try.prog 112 rawR FL nl DL) := (h.l.map.later HW.out.2.2).own
  have hE := lt_of_heap h.e
  have hFL := h.l.map.own.lt
  have hFU := h.u.map.own.lt
  have hsC : (((((w.alloc (Obj.cells #[Value.pointer (some ⟨E, 0, none⟩)] 96)).alloc (Obj.cells #[Value.map (some FL), Value.map (some FU)] 109)).alloc (Obj.cells #[Value.int IntKind.i64 now] 2)).alloc (Obj.map #[] 0)).alloc (Obj.cells #[Value.map (some (w.heap.size + 1 + 1 + 1))] 120)).heap.size = w.heap.size + 5 := by simp
  have hFLE : FL ≠ E := by
    obtain ⟨es, clock, hb, _⟩ := h.l.map.own
    rintro rfl
    rw [h.e] at hb
    cases hb
  have hFUE : FU ≠ E := by
    obtain ⟨es, clock, hb, _⟩ := h.u.map.own
    rintro rfl
    rw [h.e] at hb
    cases hb
  have hmm := @run_makeMap Try.prog
  clear h
  go_enter Try.func32, Try.ntmps32
  go_wp2_with (at_range; refine wpList_range_own _ rfl _ 106 rfl 112 99 law112 Try.underlying106 rawR FL nl DL rfl HO.out ?_; intro w0 hrg0 hg0 hs0)
  rw [hsC] at hrg0
  have hb0 : Below (((((w.alloc (Obj.cells #[Value.pointer (some ⟨E, 0, none⟩)] 96)).alloc (Obj.cells #[Value.map (some FL), Value.map (some FU)] 109)).alloc (Obj.cells #[Value.int IntKind.i64 now] 2)).alloc (Obj.map #[] 0)).alloc (Obj.cells #[Value.map (some (w.heap.size + 1 + 1 + 1))] 120)).heap.size (((((w.alloc (Obj.cells #[Value.pointer (some ⟨E, 0, none⟩)] 96)).alloc (Obj.cells #[Value.map (some FL), Value.map (some FU)] 109)).alloc (Obj.cells #[Value.int IntKind.i64 now] 2)).alloc (Obj.map #[] 0)).alloc (Obj.cells #[Value.map (some (w.heap.size + 1 + 1 + 1))] 120)) w0 := ⟨hg0.os, hg0.tape, hg0.output, hg0.size, fun k hk => hg0.block k hk (by simp)⟩
  have HS : Hid (w0.ranges Try.prog 112 rawR FL (w.heap.size + 5) nl DL (Maps.has DL) (Maps.size DL) ∧ NSt w0 E w.heap.size (w.heap.size + 1 + 1 + 1 + 1) (w.heap.size + 1 + 1) (w.heap.size + 1 + 1 + 1) SB w.heap.size q p ws now [] 0 ∧ w0.heap[w.heap.size + 1]? = some (.cells #[.map (some FL), .map (some FU)] 109 (0, 0)) ∧ Below w.heap.size w w0) :=
    ⟨hrg0, HW.out.1.later hb0, (hb0.block _ (by rw [hsC]; omega)).trans HW.out.2.1, HW.out.2.2.trans (hb0.mono (by rw [hsC]; omega))⟩
  clear hrg0 hg0 hs0 hb0 HO HW
  go_frame
  rw [hsC]
  clear hsC
  go_loopg [11] (Maps.size DL) (fun j _ wi => ∃ left R, wi.ranges Try.prog 112 rawR FL (w.heap.size + 5) nl DL left j ∧ NSt wi E w.heap.size (w.heap.size + 1 + 1 + 1 + 1) (w.heap.size + 1 + 1) (w.heap.size + 1 + 1 + 1) SB w.heap.size q p ws now R R.length ∧ Cov (okW ws now) (fun _ => False) LL left R ∧ wi.heap[w.heap.size + 1]? = some (.cells #[.map (some FL), .map (some FU)] 109 (0, 0)) ∧ Ke E w wi)
  case atStart =>
    obtain ⟨h1, h2, h3, h4⟩ := HS.out
    refine ⟨Maps.has DL, [], h1, h2, fun x => ?_, h3, Ke.of_below h4⟩
    constructor
    · intro hx; simp at hx
    · rintro (hx | ⟨⟨l, hl, hf, _⟩, _⟩)
      · exact absurd hx id
      · obtain ⟨v, hv⟩ := H0.out.l.all l hl
        rw [H0.out.l.map.has.2 ⟨v, hv⟩] at hf
        cases hf
  case round =>
    obtain ⟨left, R, hrg, hst, hcov, hfx, hke⟩ := hrel
    obtain ⟨g1, e1⟩ : ∃ g1, g1 = gk := ⟨_, rfl⟩
    subst e1
    have hwr : w.heap.size + 5 < wr.heap.size := hrg.lt
    have HD : Hid (∀ l, left l = true → ∃ e ∈ mL, l = e.1) := fun l hl => H0.out.l.map.dom l (ranges_has law112 hrg l hl)
    have F1 : Hid (NSt wr E w.heap.size (w.heap.size + 1 + 1 + 1 + 1) (w.heap.size + 1 + 1) (w.heap.size + 1 + 1 + 1) SB w.heap.size q p ws now R R.length ∧ Cov (okW ws now) (fun _ => False) LL left R ∧ wr.heap[w.heap.size + 1]? = some (.cells #[.map (some FL), .map (some FU)] 109 (0, 0)) ∧ Ke E w wr) := ⟨hst, hcov, hfx, hke⟩
    clear hst hcov hke
    go_wp2_with (at_next; refine wpList_next_map (by rfl) _ (by rfl) 112 law112 (α := ByteArray × ByteArray) (fun x => kvS x.1 x.2) (fun key kl h => by obtain ⟨x, y, _, h1, _⟩ := keyS_inv h; exact ⟨(x, y), h1⟩) FL (w.heap.size + 5) nl DL mL left g1 (by simp [Act.eval]) hrg HD.out H0.out.l.map.at_ ?_ ?_)
    · intro hc0 hl0
      have HL0 : Hid (∀ kl, left kl = false) := hl0
      have cfx1 : wr.cell? ⟨w.heap.size + 1, 1, none⟩ = some (.map (some FU)) := cell_of_block hfx rfl
      have HO2 : Hid (wr.ownsMap Try.prog 9 rawR FU nu DU) := (H0.out.u.ke F1.out.2.2.2 H0.out.e).map.own
      clear hfx hc0 hl0 hrg
      obtain ⟨wq, hwq⟩ : ∃ wq, wq = wr := ⟨_, rfl⟩
      subst hwq
      go_wp2_with (at_range; refine wpList_range_own _ rfl _ 107 rfl 9 99 law9 Try.underlying107 rawR FU nu DU rfl HO2.out ?_; intro w0 hrg0 hg0 hs0)
      have hb0 : Below wq.heap.size wq w0 := ⟨hg0.os, hg0.tape, hg0.output, hg0.size, fun k hk => hg0.block k hk (by simp)⟩
      have HS2 : Hid (w0.ranges Try.prog 9 rawR FU wq.heap.size nu DU (Maps.has DU) (Maps.size DU) ∧ NSt w0 E w.heap.size (w.heap.size + 1 + 1 + 1 + 1) (w.heap.size + 1 + 1) (w.heap.size + 1 + 1 + 1) SB w.heap.size q p ws now R R.length ∧ w0.heap[w.heap.size + 1]? = some (.cells #[.map (some FL), .map (some FU)] 109 (0, 0)) ∧ Ke E w w0) :=
        ⟨hrg0, F1.out.1.later hb0, (hb0.block _ (by omega)).trans F1.out.2.2.1, F1.out.2.2.2.below (hb0.mono F1.out.2.2.2.size)⟩
      clear hrg0 hg0 hs0 hb0 HO2 cfx1
      go_frame
      go_loopg [13] (Maps.size DU) (fun j _ wi => ∃ left S, wi.ranges Try.prog 9 rawR FU wq.heap.size nu DU left j ∧ NSt wi E w.heap.size (w.heap.size + 1 + 1 + 1 + 1) (w.heap.size + 1 + 1) (w.heap.size + 1 + 1 + 1) SB w.heap.size q p ws now S S.length ∧ Cov (okW ws now) (fun x => x ∈ R) LU left S ∧ wi.heap[w.heap.size + 1]? = some (.cells #[.map (some FL), .map (some FU)] 109 (0, 0)) ∧ Ke E w wi)
      case atStart =>
        obtain ⟨h1, h2, h3, h4⟩ := HS2.out
        refine ⟨Maps.has DU, R, h1, h2, fun x => ?_, h3, h4⟩
        constructor
        · intro hx; exact Or.inl hx
        · rintro (hx | ⟨⟨l, hl, hf, _⟩, _⟩)
          · exact hx
          · obtain ⟨v, hv⟩ := H0.out.u.all l hl
            rw [H0.out.u.map.has.2 ⟨v, hv⟩] at hf
            cases hf
      case round =>
        obtain ⟨left2, S, hrg, hst, hcov, hfx, hke⟩ := hrel
        obtain ⟨g2, e2⟩ : ∃ g2, g2 = gk := ⟨_, rfl⟩
        subst e2
        have hwr2 : wq.heap.size < wr.heap.size := hrg.lt
        have HD2 : Hid (∀ l, left2 l = true → ∃ e ∈ mU, l = e.1) := fun l hl => H0.out.u.map.dom l (ranges_has law9 hrg l hl)
        have G1 : Hid (NSt wr E w.heap.size (w.heap.size + 1 + 1 + 1 + 1) (w.heap.size + 1 + 1) (w.heap.size + 1 + 1 + 1) SB w.heap.size q p ws now S S.length ∧ Cov (okW ws now) (fun x => x ∈ R) LU left2 S ∧ wr.heap[w.heap.size + 1]? = some (.cells #[.map (some FL), .map (some FU)] 109 (0, 0)) ∧ Ke E w wr) := ⟨hst, hcov, hfx, hke⟩
        have hSl : S.length ≤ 200000 := by
          have h1 := hcov.len (T := R) hst.nd (fun _ h => h)
          have h2 := F1.out.2.1.len (T := []) F1.out.1.nd (fun _ h => absurd h id)
          have h3 := H0.out.lb
          have h4 := H0.out.ub
          simp only [List.length_nil] at h2
          omega
        clear hst hcov hke
        go_wp2_with (at_next; refine wpList_next_map (by rfl) _ (by rfl) 9 law9 (α := ByteArray) (fun x => kvT x) (fun key kl h => by obtain ⟨x, _, h1, _⟩ := keyT_inv h; exact ⟨x, h1⟩) FU wq.heap.size nu DU mU left2 g2 (by simp [Act.eval]) hrg HD2.out H0.out.u.map.at_ ?_ ?_)
        · intro hc0 hl0
          have HL2 : Hid (∀ kl, left2 kl = false) := hl0
          have cfx0 : wr.cell? ⟨w.heap.size + 1, 0, none⟩ = some (.map (some FL)) := cell_of_block hfx rfl
          have cfx1 : wr.cell? ⟨w.heap.size + 1, 1, none⟩ = some (.map (some FU)) := cell_of_block hfx rfl
          have cpn : wr.cell? ⟨w.heap.size + 1 + 1 + 1 + 1, 0, none⟩ = some (.map (some (w.heap.size + 1 + 1 + 1))) := cell_of_block G1.out.1.pn rfl
          have HK : Hid (∀ wy, Below wr.heap.size wr wy → wy.cell? ⟨w.heap.size + 1, 0, none⟩ = some (.map (some FL)) ∧ wy.cell? ⟨w.heap.size + 1, 1, none⟩ = some (.map (some FU)) ∧ wy.cell? ⟨w.heap.size + 1 + 1 + 1 + 1, 0, none⟩ = some (.map (some (w.heap.size + 1 + 1 + 1)))) := fun wy hb => ⟨cell_later hb cfx0, cell_later hb cfx1, cell_later hb cpn⟩
          have HLS : Hid (∀ wy, Below wr.heap.size wr wy → LsIn wy 112 FL nl w.heap.size DL mL LL ∧ LsIn wy 9 FU nu w.heap.size DU mU LU ∧ NumIn wy (w.heap.size + 1 + 1 + 1) S.length S) := fun wy hb => ⟨(H0.out.l.ke G1.out.2.2.2 H0.out.e).later hb, (H0.out.u.ke G1.out.2.2.2 H0.out.e).later hb, G1.out.1.num.later hb⟩
          clear hfx hc0 hl0 hrg
          go_wp2_with fail
          go_region_held3 (fun wy => wy.cell? ⟨w.heap.size + 1, 0, none⟩ = some (.map (some FL)) ∧ wy.cell? ⟨w.heap.size + 1, 1, none⟩ = some (.map (some FU)) ∧ wy.cell? ⟨w.heap.size + 1 + 1 + 1 + 1, 0, none⟩ = some (.map (some (w.heap.size + 1 + 1 + 1))))
            (first | (exact HK.out _ ((Below.refl _ _).drew.trans ((hb6.mono (Nat.le_refl _)).trans (hb7.mono (hb6.size))))) | (exact HK.out _ ((Below.refl _ _).drew.trans hb6)) | (go_keep; done))
            (first
              | (go_at_call 34; refine (numbered34_calls _ FL (w.heap.size + 1 + 1 + 1) nl S.length w.heap.size DL mL LL S (HLS.out _ (Below.refl _ _).drew).1 (HLS.out _ (Below.refl _ _).drew).2.2 G1.out.1.nd G1.out.1.wf (fun x hx => (H0.out.lw x hx).2) (fun x hx => Nat.le_trans (length_in hx) (by have := H0.out.lb; omega)) (by omega) H0.out.nl_).mono ?_; rintro e w6 ⟨rfl, hbs6, hb6⟩)
              | (go_at_call 35; refine (numbered35_calls w6 FU (w.heap.size + 1 + 1 + 1) nu S.length w.heap.size DU mU LU S (HLS.out _ ((Below.refl _ _).drew.trans hb6)).2.1 (HLS.out _ ((Below.refl _ _).drew.trans hb6)).2.2 G1.out.1.nd G1.out.1.wf (fun x hx => (H0.out.uw x hx).2) (fun x hx => Nat.le_trans (length_in hx) (by have := H0.out.ub; omega)) (by omega) H0.out.nu_).mono ?_; rintro e w7 ⟨rfl, hbs7, hb7⟩))
          have hb67 : Below wr.heap.size wr w7 := (Below.refl _ _).drew.trans ((hb6.mono (Nat.le_refl _)).trans (hb7.mono hb6.size))
          have G2 : Hid (Below wr.heap.size wr w7 ∧ BsIn w7 112 wr.heap.size S LL ∧ BsIn w7 9 w6.heap.size S LU) := ⟨hb67, hbs6.later hb7, hbs7⟩
          clear hb67 hbs6 hbs7 hb6 hb7
          go_wp2_with fail
          refine bodyPost_ret (v := .tuple #[.map (some wr.heap.size), .map (some w6.heap.size)]) (by simp [results, Try.results32, go_sem]) rfl ⟨wr.heap.size, w6.heap.size, rfl, ?_⟩
          obtain ⟨rv, hev, hov⟩ := G1.out.1.e
          obtain ⟨p1, p2, p3⟩ := G2.out
          refine ⟨S, rv, G1.out.1.nd, fun x => ?_, hSl, p2, p3, (p1.block _ (lt_of_heap hev)).trans hev, hov.later p1, G1.out.2.2.2.below (p1.mono G1.out.2.2.2.size)⟩
          rw [G1.out.2.1 x]
          show (x ∈ R ∨ _) ↔ _
          rw [F1.out.2.1 x]
          show ((False ∨ _) ∨ _) ↔ _
          constructor
          · rintro ((h1 | ⟨⟨l, h1, _, h3⟩, h4⟩) | ⟨⟨l, h1, _, h3⟩, h4⟩)
            · exact absurd h1 id
            · exact ⟨Or.inl ⟨l, h1, h3⟩, h4⟩
            · exact ⟨Or.inr ⟨l, h1, h3⟩, h4⟩
          · rintro ⟨⟨l, h1, h3⟩ | ⟨l, h1, h3⟩, h4⟩
            · exact Or.inl (Or.inr ⟨⟨l, h1, HL0.out _, h3⟩, h4⟩)
            · exact Or.inr ⟨⟨l, h1, HL2.out _, h3⟩, h4⟩
        · rintro xa kl v w1 cnt1 hkey hleft hmem hrg1 hlt1 hg1 hs1 hen
          obtain ⟨ia, ib, ic, id_, hit⟩ := ranges_iter hrg
          have hst1 := G1.out.1.iter hg1 hit
          have hqs : w.heap.size + 5 < wq.heap.size := hwr
          have hb1 : Below w.heap.size wr w1 := below_iter hg1 (by omega) (by omega)
          have hke1 := G1.out.2.2.2.below hb1
          have hL1 := H0.out.u.ke hke1 H0.out.e
          obtain ⟨rs, N, hrsL, rfl, hcp, hNB⟩ := hL1.val _ hmem
          have F2 : Hid (w1.ranges Try.prog 9 rawR FU wq.heap.size nu DU (fun z => left2 z && !z.sameKey kl) cnt1 ∧ NSt w1 E w.heap.size (w.heap.size + 1 + 1 + 1 + 1) (w.heap.size + 1 + 1) (w.heap.size + 1 + 1 + 1) SB w.heap.size q p ws now S S.length ∧ cnt1 < g2 ∧ Ke E w w1 ∧ (kl, rs) ∈ LU ∧ CpR w1 N rs rs.length ∧ N < w.heap.size ∧ kl.sameKey kl = true ∧ w1.heap[w.heap.size + 1]? = some (.cells #[.map (some FL), .map (some FU)] 109 (0, 0))) :=
            ⟨hrg1, hst1, hlt1, hke1, hrsL, hcp, hNB, WideAt.sameKey_self (law9.key hkey), iter_block hg1 hit G1.out.2.2.1⟩
          simp only [kvT] at hen
          have hrl : rs.length ≤ 100000 := Nat.le_trans (length_in hrsL) H0.out.ub
          clear hst1 hb1 hke1 hL1 hrsL hcp hNB hit hrg1 hlt1 hg1 hkey hleft hmem hrg hs1 hfx
          go_wp2_with fail
          refine (number1_calls w1 E w.heap.size (w.heap.size + 1 + 1 + 1 + 1) (w.heap.size + 1 + 1) (w.heap.size + 1 + 1 + 1) SB w.heap.size N q p ws now S rs S.length rs.length F2.out.2.1 F2.out.2.2.2.2.2.1 F2.out.2.2.2.2.2.2.1 hE (F2.out.2.2.2.1.size) (H0.out.uw _ F2.out.2.2.2.2.1).1 (H0.out.uw _ F2.out.2.2.2.2.1).2 (by omega) (by omega)).mono ?_
          rintro e w2 ⟨rfl, hst2, hkp2⟩
          have F3 : Hid (NSt w2 E w.heap.size (w.heap.size + 1 + 1 + 1 + 1) (w.heap.size + 1 + 1) (w.heap.size + 1 + 1 + 1) SB w.heap.size q p ws now (gather (okW ws now) S rs) (S.length + rs.length) ∧ Kp w.heap.size E (w.heap.size + 1 + 1 + 1) w1 w2) := ⟨hst2, hkp2⟩
          clear hst2 hkp2 hen
          go_wp2_with fail
          go_roundg cnt1
          case measure => exact F2.out.2.2.1
          case rel =>
            obtain ⟨f1, f2, f3, f4, f5, f6, f7, f8, f9⟩ := F2.out
            obtain ⟨k1, k2⟩ := F3.out
            refine ⟨fun z => left2 z && !z.sameKey kl, _, ranges_kp f1 k2 hFUE (by omega) hFU hE (by omega) f2.num.obj, k1.tight, G1.out.2.1.next f5 H0.out.u.fn f8, ?_, f4.kp k2 (by omega)⟩
            exact (k2.block _ (lt_of_heap f9) (by omega) (by omega) (fun _ cs e => by rw [f9] at e; cases e)).trans f9
    · rintro xa xb kl v w1 cnt1 hkey hleft hmem hrg1 hlt1 hg1 hs1 hen
      obtain ⟨ia, ib, ic, id_, hit⟩ := ranges_iter hrg
      have hst1 := F1.out.1.iter hg1 hit
      have hb1 : Below w.heap.size wr w1 := below_iter hg1 (by omega) (by omega)
      have hke1 := F1.out.2.2.2.below hb1
      have hL1 := H0.out.l.ke hke1 H0.out.e
      obtain ⟨rs, N, hrsL, rfl, hcp, hNB⟩ := hL1.val _ hmem
      have F2 : Hid (w1.ranges Try.prog 112 rawR FL (w.heap.size + 5) nl DL (fun z => left z && !z.sameKey kl) cnt1 ∧ NSt w1 E w.heap.size (w.heap.size + 1 + 1 + 1 + 1) (w.heap.size + 1 + 1) (w.heap.size + 1 + 1 + 1) SB w.heap.size q p ws now R R.length ∧ cnt1 < g1 ∧ Ke E w w1 ∧ (kl, rs) ∈ LL ∧ CpR w1 N rs rs.length ∧ N < w.heap.size ∧ kl.sameKey kl = true ∧ w1.heap[w.heap.size + 1]? = some (.cells #[.map (some FL), .map (some FU)] 109 (0, 0))) :=
        ⟨hrg1, hst1, hlt1, hke1, hrsL, hcp, hNB, WideAt.sameKey_self (law112.key hkey), iter_block hg1 hit F1.out.2.2.1⟩
      simp only [kvS] at hen
      have hRl : R.length ≤ 100000 := by
        have h1 := F1.out.2.1.len (T := []) F1.out.1.nd (fun _ h => absurd h id)
        have h2 := H0.out.lb
        simp only [List.length_nil] at h1
        omega
      have hrl : rs.length ≤ 100000 := Nat.le_trans (length_in hrsL) H0.out.lb
      clear hst1 hb1 hke1 hL1 hrsL hcp hNB hit hrg1 hlt1 hg1 hkey hleft hmem hrg hs1 hfx
      go_wp2_with fail
      refine (number1_calls w1 E w.heap.size (w.heap.size + 1 + 1 + 1 + 1) (w.heap.size + 1 + 1) (w.heap.size + 1 + 1 + 1) SB w.heap.size N q p ws now R rs R.length rs.length F2.out.2.1 F2.out.2.2.2.2.2.1 F2.out.2.2.2.2.2.2.1 hE (F2.out.2.2.2.1.size) (H0.out.lw _ F2.out.2.2.2.2.1).1 (H0.out.lw _ F2.out.2.2.2.2.1).2 (by omega) (by omega)).mono ?_
      rintro e w2 ⟨rfl, hst2, hkp2⟩
      have F3 : Hid (NSt w2 E w.heap.size (w.heap.size + 1 + 1 + 1 + 1) (w.heap.size + 1 + 1) (w.heap.size + 1 + 1 + 1) SB w.heap.size q p ws now (gather (okW ws now) R rs) (R.length + rs.length) ∧ Kp w.heap.size E (w.heap.size + 1 + 1 + 1) w1 w2) := ⟨hst2, hkp2⟩
      clear hst2 hkp2 hen
      go_wp2_with fail
      go_roundg cnt1
      case measure => exact F2.out.2.2.1
      case rel =>
        obtain ⟨f1, f2, f3, f4, f5, f6, f7, f8, f9⟩ := F2.out
        obtain ⟨k1, k2⟩ := F3.out
        refine ⟨fun z => left z && !z.sameKey kl, _, ranges_kp f1 k2 hFLE (by omega) hFL hE (by omega) f2.num.obj, k1.tight, F1.out.2.1.next f5 H0.out.l.fn f8, ?_, f4.kp k2 (by omega)⟩
        exact (k2.block _ (lt_of_heap f9) (by omega) (by omega) (fun _ cs e => by rw [f9] at e; cases e)).trans f9
end Go.Proofs.Qxb6612720a
