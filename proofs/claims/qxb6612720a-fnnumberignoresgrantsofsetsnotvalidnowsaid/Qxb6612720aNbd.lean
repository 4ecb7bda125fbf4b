import Derived.Test.Qxb6612720aFnd
namespace Go.Proofs.Qxb6612720a
open Go.RowKit
set_option maxRecDepth 100000

theorem make_hint {t k e : TypeId} (ht : Try.prog.underlying t = some (.map k e)) (x : Int) (wx : World) : (Instr.makeMap t (some (.int .i64 x))).run Try.prog wx = .ok (.map (some wx.heap.size)) (wx.alloc (.map #[] 0)) := by
  simp [Instr.makeMap, run_underlying ht, asInt, asIntOf, Result.andThen]
theorem lt_of_words {w : World} {b n : Nat} {u : Nat → Nat} (h : WordsIn w b n u) : b < w.heap.size := by
  obtain ⟨c, h1, _⟩ := h
  exact lt_of_heap h1
open Go.WideElems (Fit rd rg pl rd_key rd_val rg_of other_key) in
theorem ranges_has {KT : TypeId} (K : Maps.Keyed Try.prog KT) {w : World} {mb r n cnt : Nat} {D : DataW Value} {left : Lit → Bool} (h : w.ranges Try.prog KT rawR mb r n D left cnt) (l : Lit) (hl : left l = true) : Maps.has D l = true := by
  obtain ⟨es, clock, since, seen, c0, q1, F, q3, rfl, q5, q6, q7, q8, q9, _⟩ := h
  obtain ⟨x, hx, rfl⟩ := q9 l hl
  obtain ⟨y, hy⟩ := F.reads x hx
  exact List.any_eq_true.2 ⟨rg Try.prog KT rawR x, mem_sorted.2 (List.mem_map.2 ⟨x, hx, rfl⟩), WideAt.sameKey_self (by rw [rg_of hy]; exact K.key (rd_key hy))⟩

set_option maxHeartbeats 4000000 in
theorem numbered34_calls (w : World) (FB MB n nn Bd : Nat) (D : DataW Value) (m : List (Lit × Value)) (L : List (Lit × List (Int × Int))) (R : List (Int × Int))
    (hL : LsIn w 112 FB n Bd D m L) (hN : NumIn w MB nn R) (hnd : R.Nodup) (hRw : ∀ r ∈ R, wfI r.1 r.2) (hwf : ∀ x ∈ L, ∀ r ∈ x.2, wfI r.1 r.2) (hlen : ∀ x ∈ L, x.2.length ≤ 300000) (bR : R.length ≤ 300000) (bn : n ≤ 1048576) :
    Calls Try.prog 34 #[.map (some FB), .map (some MB)] w fun e w' => e = .returned (.map (some w.heap.size)) ∧ BsIn w' 112 w.heap.size R L ∧ Below w.heap.size w w' := by
  have H0 : Hid (LsIn w 112 FB n Bd D m L ∧ NumIn w MB nn R ∧ R.Nodup ∧ (∀ r ∈ R, wfI r.1 r.2) ∧ (∀ x ∈ L, ∀ r ∈ x.2, wfI r.1 r.2) ∧ (∀ x ∈ L, x.2.length ≤ 300000)) := ⟨hL, hN, hnd, hRw, hwf, hlen⟩
  have hlenF := fun ty => hL.map.own.len Try.underlying106 ty
  have hFB := hL.map.own.lt
  have hMB := hN.lt
  have hsz : Maps.size D ≤ n := hL.map.own.size_le
  have howa := hL.map.own.alloc (.map #[] 0)
  clear hL hN hnd hRw hwf hlen
  have hmk : ∀ (x : Int) (wx : World), (Instr.makeMap 113 (some (.int .i64 x))).run Try.prog wx = .ok (.map (some wx.heap.size)) (wx.alloc (.map #[] 0)) := make_hint Try.underlying113
  go_enter Try.func34, Try.ntmps34
  go_wp2_with (at_range; refine wpList_range_own _ rfl _ 106 rfl 112 99 law112 Try.underlying106 rawR FB n D rfl howa ?_; intro w0 hrg0 hg0 hs0)
  have hb0 : Below (w.heap.size + 1) (w.alloc (.map #[] 0)) w0 := ⟨hg0.os, hg0.tape, hg0.output, hg0.size, fun k hk => hg0.block k (by simpa using hk) (by simp)⟩
  have HS : Hid (w0.ranges Try.prog 112 rawR FB (w.heap.size + 1) n D (Maps.has D) (Maps.size D) ∧ MapIs w0 112 w.heap.size 0 (.map []) [] ∧ Below w.heap.size w w0 ∧ w0.heap.size = w.heap.size + 2) := by
    refine ⟨by simpa using hrg0, ?_, ((Below.refl _ _).alloc (Nat.le_refl _) _).trans (hb0.mono (by omega)), by simp at hs0; omega⟩
    have h1 : MapIs (w.alloc (.map #[] 0)) 112 w.heap.size 0 (.map []) [] := ⟨World.ownsMap_made w Try.prog 112 rawR, fun l hl => by simp [Maps.has] at hl, fun e he => by simp at he, by simp⟩
    exact h1.kept (hb0.block _ (by omega))
  clear hrg0 hg0 hs0 hb0 howa
  go_frame
  have hsza : (w.alloc (Obj.map #[] 0)).heap.size = w.heap.size + 1 := by simp
  rw [hsza]
  clear hsza
  go_loopg [7] (Maps.size D) (fun j _ wi => ∃ left n2 D2 m2, wi.ranges Try.prog 112 rawR FB (w.heap.size + 1) n D left j ∧ MapIs wi 112 w.heap.size n2 D2 m2 ∧ n2 + j ≤ Maps.size D ∧ (∀ e ∈ m2, left e.1 = false) ∧ (∀ x ∈ L, left x.1 = false → ∃ v, (x.1, v) ∈ m2 ∧ BitOf wi R x.2 v) ∧ Below w.heap.size w wi)
  case atStart =>
    obtain ⟨h1, h2, h3, _⟩ := HS.out
    refine ⟨Maps.has D, 0, _, _, h1, h2, by omega, fun e he => by simp at he, fun x hx hl => ?_, h3⟩
    obtain ⟨v, hv⟩ := H0.out.1.all x hx
    rw [H0.out.1.map.has.2 ⟨v, hv⟩] at hl
    cases hl
  case round =>
    obtain ⟨left, n2, D2, m2, hrg, hmp, hcn, hoff, hdone, hbel⟩ := hrel
    obtain ⟨g1, e1⟩ : ∃ g1, g1 = gk := ⟨_, rfl⟩
    subst e1
    have hwr : w.heap.size + 1 < wr.heap.size := hrg.lt
    have HD : Hid (∀ l, left l = true → ∃ e ∈ m, l = e.1) := fun l hl => H0.out.1.map.dom l (ranges_has law112 hrg l hl)
    have F1 : Hid (MapIs wr 112 w.heap.size n2 D2 m2 ∧ n2 + g1 ≤ Maps.size D ∧ (∀ e ∈ m2, left e.1 = false) ∧ (∀ x ∈ L, left x.1 = false → ∃ v, (x.1, v) ∈ m2 ∧ BitOf wr R x.2 v) ∧ Below w.heap.size w wr) := ⟨hmp, hcn, hoff, hdone, hbel⟩
    clear hmp hcn hoff hdone hbel
    go_wp2_with (at_next; refine wpList_next_map (by rfl) _ (by rfl) 112 law112 (α := ByteArray × ByteArray) (fun x => kvS x.1 x.2) (fun key kl h => by obtain ⟨x, y, _, h1, _⟩ := keyS_inv h; exact ⟨(x, y), h1⟩) FB (w.heap.size + 1) n D m left g1 (by simp [Act.eval]) hrg HD.out H0.out.1.map.at_ ?_ ?_)
    · intro hc0 hl0
      go_wp2
      go_ret
      obtain ⟨f1, f2, f3, f4, f5⟩ := F1.out
      exact ⟨rfl, ⟨_, _, _, f1, fun x hx => f4 x hx (hl0 _)⟩, f5⟩
    · rintro xa xb kl v w1 cnt1 hkey hleft hmem hrg1 hlt1 hg1 hs1 hen
      have hit := ranges_iter hrg
      have hb1 : Below (w.heap.size + 1) wr w1 := below_iter hg1 (Nat.le_refl _) (by omega)
      obtain ⟨rs, N, hrsL, rfl, hcpw, hNB⟩ := H0.out.1.val _ hmem
      have hw1 : Below w.heap.size w w1 := F1.out.2.2.2.2.trans (hb1.mono (by omega))
      have hcp : CpR w1 N rs rs.length := hcpw.kept (hw1.block _ hcpw.lt)
      have hnum : NumIn w1 MB nn R := H0.out.2.1.kept (hw1.block _ hMB)
      have F2 : Hid (CpR w1 N rs rs.length ∧ NumIn w1 MB nn R ∧ Below w.heap.size w w1 ∧ w1.ranges Try.prog 112 rawR FB (w.heap.size + 1) n D (fun z => left z && !z.sameKey kl) cnt1 ∧ cnt1 < g1 ∧ MapIs w1 112 w.heap.size n2 D2 m2 ∧ (∀ x ∈ L, left x.1 = false → ∃ v, (x.1, v) ∈ m2 ∧ BitOf w1 R x.2 v) ∧ keyOf Try.prog 112 (kvS xa xb) = some kl ∧ left kl = true ∧ (kl, rs) ∈ L) := by
        refine ⟨hcp, hnum, hw1, hrg1, hlt1, F1.out.1.kept (hb1.block _ (by omega)), fun x hx hl => ?_, hkey, hleft, hrsL⟩
        obtain ⟨v, h1, c, u, h2, ⟨cs, h3, h4⟩, h5⟩ := F1.out.2.2.2.1 x hx hl
        obtain ⟨_, _, _, _, hi⟩ := hit
        exact ⟨v, h1, c, u, h2, ⟨cs, iter_block hg1 hi h3, h4⟩, h5⟩
      have hrl : rs.length ≤ 300000 := H0.out.2.2.2.2.2 _ hrsL
      have hwlt : w.heap.size + 1 < w1.heap.size := by omega
      obtain ⟨DN, mN, hmN, hszN, _⟩ := hnum
      have hlenN := fun ty (wx : World) (hb : Below w1.heap.size w1 wx) => (hmN.later hb).own.len Try.underlying120 ty
      rw [hszN] at hlenN
      have HLN : Hid (∀ (ty : TypeId) (wx : World), Below w1.heap.size w1 wx → (Builtin.len_ #[120] ty #[.map (some MB)]).run Try.prog wx = .ok (.int .i64 R.length) wx) := hlenN
      clear hlenN hmN hszN hcp hcpw hw1 hrg1 hlt1 hkey hleft hrsL hb1 hit hg1 hrg hmem hs1
      have hba : Below w1.heap.size w1 (w1.alloc (.cells #[.string xa, .string xb] 112)) := (Below.refl _ _).alloc (Nat.le_refl _) _
      have hlk := HLN.out 3 _ hba
      simp only [kvS] at hen
      go_wp2_with fail
      refine (newBitset_calls R.length (by omega) _).mono ?_
      rintro e w3 ⟨c, rfl, hc3, hb3, hwd3⟩
      have hb13 : Below w1.heap.size w1 w3 := ((Below.refl _ _).alloc (Nat.le_refl _) _).trans (hb3.mono (by simp))
      have kc0 : w3.cell? ⟨w1.heap.size, 0, none⟩ = some (.string xa) := by rw [hb3.cell (by simp)]; go_simp
      have kc1 : w3.cell? ⟨w1.heap.size, 1, none⟩ = some (.string xb) := by rw [hb3.cell (by simp)]; go_simp
      have KC : Hid (w3.cell? ⟨w1.heap.size, 0, none⟩ = some (.string xa) ∧ w3.cell? ⟨w1.heap.size, 1, none⟩ = some (.string xb)) := ⟨kc0, kc1⟩
      have hcw : w1.heap.size + 1 ≤ c := by simpa using hc3
      clear kc0 kc1
      have F3 : Hid (Below w1.heap.size w1 w3 ∧ WordsIn w3 c ((R.length + 63) / 64) (fun _ => 0) ∧ w1.heap.size ≤ c) := ⟨hb13, hwd3, by omega⟩
      clear hc3 hb3 hwd3 hb13 hen hlk
      go_wp2_with fail
      obtain ⟨wz, hwz⟩ : ∃ wz, wz = wr := ⟨_, rfl⟩
      subst hwz
      go_loopg [28] rs.length (fun j i wi => ∃ t : Nat, ∃ u, t ≤ rs.length ∧ i = .int .i64 t ∧ j = rs.length - t ∧ WordsIn wi c ((R.length + 63) / 64) u ∧ (∀ g (h : g < R.length), bitU u g = true ↔ R[g] ∈ rs.take t) ∧ Below w1.heap.size w1 wi ∧ wi.cell? ⟨w1.heap.size, 0, none⟩ = some (.string xa) ∧ wi.cell? ⟨w1.heap.size, 1, none⟩ = some (.string xb))
      case atStart => exact ⟨0, _, Nat.zero_le _, rfl, rfl, F3.out.2.1, fun g hg => by simp [bitU_zero], F3.out.1, KC.out.1, KC.out.2⟩
      case round =>
        obtain ⟨t, u, ht, rfl, hgt, hwd, hbits, hbel, kc0, kc1⟩ := hrel
        by_cases htl : t < rs.length
        · obtain ⟨x, hx⟩ : ∃ x, x = rs[t] := ⟨_, rfl⟩
          obtain ⟨c1, k1, k2, k3⟩ := F2.out.1
          obtain ⟨k4, k5⟩ := k3 t htl htl
          rw [← hx] at k4 k5
          have c0 := cell_later hbel (cell_of_block k1 k4)
          have c1' := cell_later hbel (cell_of_block k1 k5)
          obtain ⟨v, hlook, hv⟩ := ((F2.out.2.1.later hbel).later ((Below.refl _ _).alloc (Nat.le_refl _) (.cells #[.int .i64 x.1, .int .i64 x.2] 118))).look (x := x) (by rw [hx]; exact H0.out.2.2.2.2.1 _ F2.out.2.2.2.2.2.2.2.2.2 _ (List.getElem_mem htl)) H0.out.2.2.2.1 H0.out.2.2.1
          simp only [kvI] at hlook
          have hti : (t : Int) < rs.length := by omega
          have lN : N < wr.heap.size := Nat.lt_of_lt_of_le (lt_of_heap k1) hbel.size
          have HG : Hid (WordsIn wr c ((R.length + 63) / 64) u ∧ (∀ g (h : g < R.length), bitU u g = true ↔ R[g] ∈ rs.take t) ∧ Below w1.heap.size w1 wr ∧ gk = rs.length - t ∧ x = rs[t]) := ⟨hwd, hbits, hbel, hgt, hx⟩
          clear hwd hbits hbel hgt hx k1 k2 k3 k4 k5
          by_cases hm : x ∈ R
          · rw [decide_eq_true hm] at hlook
            obtain rfl := hv hm
            have hgl : R.idxOf x < R.length := List.idxOf_lt_length_iff.2 hm
            obtain ⟨gi, hgi⟩ : ∃ gi, gi = R.idxOf x := ⟨_, rfl⟩
            rw [← hgi] at hlook hgl
            have HM : Hid (gi = R.idxOf x) := hgi
            clear hm hgi
            go_wp2_with fail
            refine (setW_calls _ c ((R.length + 63) / 64) gi u (by omega) (by omega) (HG.out.1.later ((Below.refl _ _).alloc (Nat.le_refl _) _))).mono ?_
            rintro e w4 ⟨rfl, hwd4, vv, hb4⟩
            have hb5 : Below w1.heap.size w1 w4 := ((HG.out.2.2.1.alloc HG.out.2.2.1.size _).setCell F3.out.2.2 _).trans (hb4.mono (by have := HG.out.2.2.1.size; simp; omega))
            have HW : Hid (WordsIn w4 c ((R.length + 63) / 64) (fun i => if i = gi / 64 then u i ||| 2 ^ (gi % 64) else u i) ∧ Below w1.heap.size w1 w4) := ⟨hwd4, hb5⟩
            have hlk0 := World.block_lt_of_cell? wr ⟨w1.heap.size, 0, none⟩ kc0
            simp only at hlk0
            have KW : Hid (w4.cell? ⟨w1.heap.size, 0, none⟩ = some (.string xa) ∧ w4.cell? ⟨w1.heap.size, 1, none⟩ = some (.string xb)) := by
              have hb6 : Below c wr w4 := ((((Below.refl wr.heap.size wr).alloc (Nat.le_refl _) (.cells #[.int .i64 x.1, .int .i64 x.2] 118)).mono (Nat.le_of_lt (lt_of_words HG.out.1))).setCell (Nat.le_refl _) _).trans (hb4.mono (by have := lt_of_words HG.out.1; simp; omega))
              exact ⟨(hb6.cell (p := ⟨w1.heap.size, 0, none⟩) hcw).trans kc0, (hb6.cell (p := ⟨w1.heap.size, 1, none⟩) hcw).trans kc1⟩
            clear hlk0
            clear hwd4 hb4 hb5
            go_wp2_with fail
            go_roundg (rs.length - (t + 1))
            case measure => have := HG.out.2.2.2.1; omega
            case rel =>
              refine ⟨t + 1, _, by omega, by go_num, rfl, HW.out.1, ?_, HW.out.2, KW.out.1, KW.out.2⟩
              rw [HM.out]
              exact bits_hit H0.out.2.2.1 htl HG.out.2.2.2.2 HG.out.2.1
          · rw [decide_eq_false hm] at hlook
            have HM : Hid (x ∉ R) := hm
            clear hm hv
            go_wp2_with fail
            go_roundg (rs.length - (t + 1))
            case measure => have := HG.out.2.2.2.1; omega
            case rel =>
              exact ⟨t + 1, u, by omega, by go_num, rfl, HG.out.1.later ((Below.refl _ _).alloc (Nat.le_refl _) _), bits_miss htl HG.out.2.2.2.2 HM.out HG.out.2.1, HG.out.2.2.1.alloc HG.out.2.2.1.size _, cell_later ((Below.refl _ _).alloc (Nat.le_refl _) _) kc0, cell_later ((Below.refl _ _).alloc (Nat.le_refl _) _) kc1⟩
        · have et : t = rs.length := by omega
          rw [et, List.take_length] at hbits
          have hmp := F2.out.2.2.2.2.2.1.later hbel
          have hnew : ∀ y, (kl, y) ∉ m2 := fun y hy => by
            have := F1.out.2.2.1 _ hy
            rw [F2.out.2.2.2.2.2.2.2.2.1] at this
            cases this
          obtain ⟨w5, hput, hmp5, hturn⟩ := hmp.store law112 Try.underlying113 (v := .slice (some ⟨c, 0, none⟩) ((R.length + 63) / 64) ((R.length + 63) / 64)) (by have := F1.out.2.1; unfold maxLen; omega) F2.out.2.2.2.2.2.2.2.1 hnew
          have HG : Hid (WordsIn wr c ((R.length + 63) / 64) u ∧ (∀ g (h : g < R.length), bitU u g = true ↔ R[g] ∈ rs) ∧ Below w1.heap.size w1 wr ∧ MapIs w5 112 w.heap.size (n2 + 1) (D2.put kl (.held (.slice (some ⟨c, 0, none⟩) ((R.length + 63) / 64) ((R.length + 63) / 64)))) ((kl, .slice (some ⟨c, 0, none⟩) ((R.length + 63) / 64) ((R.length + 63) / 64)) :: m2) ∧ wr.mapTurned w5 w.heap.size) := ⟨hwd, hbits, hbel, hmp5, hturn⟩
          have hti : ¬ (t : Int) < rs.length := by omega
          simp only [kvS] at hput
          clear hwd hbits hbel hgt hmp5 hturn hmp hnew
          go_wp2_with fail
          go_roundg cnt1
          case measure => exact F2.out.2.2.2.2.1
          case rel =>
            obtain ⟨a1, a2, a3, a4, a5⟩ := HG.out
            obtain ⟨f1, f2, f3, f4, f5, f6, f7, f8, f9, f10⟩ := F2.out
            have hgr := a5.grown
            have hrg2 : wr.ranges Try.prog 112 rawR FB (w.heap.size + 1) n D (fun z => left z && !z.sameKey kl) cnt1 := by
              refine f4.kept (row := none) ⟨a3.os, a3.tape, a3.output, a3.size, fun k hk _ => a3.block k hk⟩ (by simp) (by simp)
            refine ⟨fun z => left z && !z.sameKey kl, n2 + 1, _, _, hrg2.kept hgr (by simp; omega) (by simp), a4, by have := F1.out.2.1; omega, fun e he => ?_, fun x hx hl => ?_, (f3.trans (a3.mono f3.size)).trans (⟨hgr.os, hgr.tape, hgr.output, hgr.size, fun k hk => hgr.block k (by have := f3.size; have := a3.size; omega) (fun e => by have := Option.some.inj e; omega)⟩)⟩
            · rcases List.mem_cons.1 he with rfl | he
              · simp [WideAt.sameKey_self (law112.key f8)]
              · simp [F1.out.2.2.1 e he]
            · rcases left_off hl with h1 | h1
              · obtain ⟨v, h2, h3⟩ := f7 x hx h1
                exact ⟨v, List.mem_cons_of_mem _ h2, (h3.later a3).turned a5⟩
              · refine ⟨_, by rw [h1]; exact List.mem_cons_self, c, u, rfl, a1.turned a5, ?_⟩
                have : x.2 = rs := H0.out.1.fn kl _ _ (by rw [← h1]; exact hx) f10
                rw [this]
                exact a2

set_option maxHeartbeats 4000000 in
theorem numbered35_calls (w : World) (FB MB n nn Bd : Nat) (D : DataW Value) (m : List (Lit × Value)) (L : List (Lit × List (Int × Int))) (R : List (Int × Int))
    (hL : LsIn w 9 FB n Bd D m L) (hN : NumIn w MB nn R) (hnd : R.Nodup) (hRw : ∀ r ∈ R, wfI r.1 r.2) (hwf : ∀ x ∈ L, ∀ r ∈ x.2, wfI r.1 r.2) (hlen : ∀ x ∈ L, x.2.length ≤ 300000) (bR : R.length ≤ 300000) (bn : n ≤ 1048576) :
    Calls Try.prog 35 #[.map (some FB), .map (some MB)] w fun e w' => e = .returned (.map (some w.heap.size)) ∧ BsIn w' 9 w.heap.size R L ∧ Below w.heap.size w w' := by
  have H0 : Hid (LsIn w 9 FB n Bd D m L ∧ NumIn w MB nn R ∧ R.Nodup ∧ (∀ r ∈ R, wfI r.1 r.2) ∧ (∀ x ∈ L, ∀ r ∈ x.2, wfI r.1 r.2) ∧ (∀ x ∈ L, x.2.length ≤ 300000)) := ⟨hL, hN, hnd, hRw, hwf, hlen⟩
  have hlenF := fun ty => hL.map.own.len Try.underlying107 ty
  have hFB := hL.map.own.lt
  have hMB := hN.lt
  have hsz : Maps.size D ≤ n := hL.map.own.size_le
  have howa := hL.map.own.alloc (.map #[] 0)
  clear hL hN hnd hRw hwf hlen
  have hmk : ∀ (x : Int) (wx : World), (Instr.makeMap 114 (some (.int .i64 x))).run Try.prog wx = .ok (.map (some wx.heap.size)) (wx.alloc (.map #[] 0)) := make_hint Try.underlying114
  go_enter Try.func35, Try.ntmps35
  go_wp2_with (at_range; refine wpList_range_own _ rfl _ 107 rfl 9 99 law9 Try.underlying107 rawR FB n D rfl howa ?_; intro w0 hrg0 hg0 hs0)
  have hb0 : Below (w.heap.size + 1) (w.alloc (.map #[] 0)) w0 := ⟨hg0.os, hg0.tape, hg0.output, hg0.size, fun k hk => hg0.block k (by simpa using hk) (by simp)⟩
  have HS : Hid (w0.ranges Try.prog 9 rawR FB (w.heap.size + 1) n D (Maps.has D) (Maps.size D) ∧ MapIs w0 9 w.heap.size 0 (.map []) [] ∧ Below w.heap.size w w0 ∧ w0.heap.size = w.heap.size + 2) := by
    refine ⟨by simpa using hrg0, ?_, ((Below.refl _ _).alloc (Nat.le_refl _) _).trans (hb0.mono (by omega)), by simp at hs0; omega⟩
    have h1 : MapIs (w.alloc (.map #[] 0)) 9 w.heap.size 0 (.map []) [] := ⟨World.ownsMap_made w Try.prog 9 rawR, fun l hl => by simp [Maps.has] at hl, fun e he => by simp at he, by simp⟩
    exact h1.kept (hb0.block _ (by omega))
  clear hrg0 hg0 hs0 hb0 howa
  go_frame
  have hsza : (w.alloc (Obj.map #[] 0)).heap.size = w.heap.size + 1 := by simp
  rw [hsza]
  clear hsza
  go_loopg [7] (Maps.size D) (fun j _ wi => ∃ left n2 D2 m2, wi.ranges Try.prog 9 rawR FB (w.heap.size + 1) n D left j ∧ MapIs wi 9 w.heap.size n2 D2 m2 ∧ n2 + j ≤ Maps.size D ∧ (∀ e ∈ m2, left e.1 = false) ∧ (∀ x ∈ L, left x.1 = false → ∃ v, (x.1, v) ∈ m2 ∧ BitOf wi R x.2 v) ∧ Below w.heap.size w wi)
  case atStart =>
    obtain ⟨h1, h2, h3, _⟩ := HS.out
    refine ⟨Maps.has D, 0, _, _, h1, h2, by omega, fun e he => by simp at he, fun x hx hl => ?_, h3⟩
    obtain ⟨v, hv⟩ := H0.out.1.all x hx
    rw [H0.out.1.map.has.2 ⟨v, hv⟩] at hl
    cases hl
  case round =>
    obtain ⟨left, n2, D2, m2, hrg, hmp, hcn, hoff, hdone, hbel⟩ := hrel
    obtain ⟨g1, e1⟩ : ∃ g1, g1 = gk := ⟨_, rfl⟩
    subst e1
    have hwr : w.heap.size + 1 < wr.heap.size := hrg.lt
    have HD : Hid (∀ l, left l = true → ∃ e ∈ m, l = e.1) := fun l hl => H0.out.1.map.dom l (ranges_has law9 hrg l hl)
    have F1 : Hid (MapIs wr 9 w.heap.size n2 D2 m2 ∧ n2 + g1 ≤ Maps.size D ∧ (∀ e ∈ m2, left e.1 = false) ∧ (∀ x ∈ L, left x.1 = false → ∃ v, (x.1, v) ∈ m2 ∧ BitOf wr R x.2 v) ∧ Below w.heap.size w wr) := ⟨hmp, hcn, hoff, hdone, hbel⟩
    clear hmp hcn hoff hdone hbel
    go_wp2_with (at_next; refine wpList_next_map (by rfl) _ (by rfl) 9 law9 (α := ByteArray) (fun x => kvT x) (fun key kl h => by obtain ⟨x, _, h1, _⟩ := keyT_inv h; exact ⟨x, h1⟩) FB (w.heap.size + 1) n D m left g1 (by simp [Act.eval]) hrg HD.out H0.out.1.map.at_ ?_ ?_)
    · intro hc0 hl0
      go_wp2
      go_ret
      obtain ⟨f1, f2, f3, f4, f5⟩ := F1.out
      exact ⟨rfl, ⟨_, _, _, f1, fun x hx => f4 x hx (hl0 _)⟩, f5⟩
    · rintro xa kl v w1 cnt1 hkey hleft hmem hrg1 hlt1 hg1 hs1 hen
      have hit := ranges_iter hrg
      have hb1 : Below (w.heap.size + 1) wr w1 := below_iter hg1 (Nat.le_refl _) (by omega)
      obtain ⟨rs, N, hrsL, rfl, hcpw, hNB⟩ := H0.out.1.val _ hmem
      have hw1 : Below w.heap.size w w1 := F1.out.2.2.2.2.trans (hb1.mono (by omega))
      have hcp : CpR w1 N rs rs.length := hcpw.kept (hw1.block _ hcpw.lt)
      have hnum : NumIn w1 MB nn R := H0.out.2.1.kept (hw1.block _ hMB)
      have F2 : Hid (CpR w1 N rs rs.length ∧ NumIn w1 MB nn R ∧ Below w.heap.size w w1 ∧ w1.ranges Try.prog 9 rawR FB (w.heap.size + 1) n D (fun z => left z && !z.sameKey kl) cnt1 ∧ cnt1 < g1 ∧ MapIs w1 9 w.heap.size n2 D2 m2 ∧ (∀ x ∈ L, left x.1 = false → ∃ v, (x.1, v) ∈ m2 ∧ BitOf w1 R x.2 v) ∧ keyOf Try.prog 9 (kvT xa) = some kl ∧ left kl = true ∧ (kl, rs) ∈ L) := by
        refine ⟨hcp, hnum, hw1, hrg1, hlt1, F1.out.1.kept (hb1.block _ (by omega)), fun x hx hl => ?_, hkey, hleft, hrsL⟩
        obtain ⟨v, h1, c, u, h2, ⟨cs, h3, h4⟩, h5⟩ := F1.out.2.2.2.1 x hx hl
        obtain ⟨_, _, _, _, hi⟩ := hit
        exact ⟨v, h1, c, u, h2, ⟨cs, iter_block hg1 hi h3, h4⟩, h5⟩
      have hrl : rs.length ≤ 300000 := H0.out.2.2.2.2.2 _ hrsL
      have hwlt : w.heap.size + 1 < w1.heap.size := by omega
      obtain ⟨DN, mN, hmN, hszN, _⟩ := hnum
      have hlenN := fun ty (wx : World) (hb : Below w1.heap.size w1 wx) => (hmN.later hb).own.len Try.underlying120 ty
      rw [hszN] at hlenN
      have HLN : Hid (∀ (ty : TypeId) (wx : World), Below w1.heap.size w1 wx → (Builtin.len_ #[120] ty #[.map (some MB)]).run Try.prog wx = .ok (.int .i64 R.length) wx) := hlenN
      clear hlenN hmN hszN hcp hcpw hw1 hrg1 hlt1 hkey hleft hrsL hb1 hit hg1 hrg hmem hs1
      have hlk := HLN.out 3 _ (Below.refl _ _)
      simp only [kvT] at hen
      go_wp2_with fail
      refine (newBitset_calls R.length (by omega) _).mono ?_
      rintro e w3 ⟨c, rfl, hc3, hb3, hwd3⟩
      have hb13 : Below w1.heap.size w1 w3 := hb3
      have F3 : Hid (Below w1.heap.size w1 w3 ∧ WordsIn w3 c ((R.length + 63) / 64) (fun _ => 0) ∧ w1.heap.size ≤ c) := ⟨hb13, hwd3, hc3⟩
      clear hc3 hb3 hwd3 hb13 hen hlk
      go_wp2_with fail
      obtain ⟨wz, hwz⟩ : ∃ wz, wz = wr := ⟨_, rfl⟩
      subst hwz
      go_loopg [28] rs.length (fun j i wi => ∃ t : Nat, ∃ u, t ≤ rs.length ∧ i = .int .i64 t ∧ j = rs.length - t ∧ WordsIn wi c ((R.length + 63) / 64) u ∧ (∀ g (h : g < R.length), bitU u g = true ↔ R[g] ∈ rs.take t) ∧ Below w1.heap.size w1 wi)
      case atStart => exact ⟨0, _, Nat.zero_le _, rfl, rfl, F3.out.2.1, fun g hg => by simp [bitU_zero], F3.out.1⟩
      case round =>
        obtain ⟨t, u, ht, rfl, hgt, hwd, hbits, hbel⟩ := hrel
        by_cases htl : t < rs.length
        · obtain ⟨x, hx⟩ : ∃ x, x = rs[t] := ⟨_, rfl⟩
          obtain ⟨c1, k1, k2, k3⟩ := F2.out.1
          obtain ⟨k4, k5⟩ := k3 t htl htl
          rw [← hx] at k4 k5
          have c0 := cell_later hbel (cell_of_block k1 k4)
          have c1' := cell_later hbel (cell_of_block k1 k5)
          obtain ⟨v, hlook, hv⟩ := ((F2.out.2.1.later hbel).later ((Below.refl _ _).alloc (Nat.le_refl _) (.cells #[.int .i64 x.1, .int .i64 x.2] 118))).look (x := x) (by rw [hx]; exact H0.out.2.2.2.2.1 _ F2.out.2.2.2.2.2.2.2.2.2 _ (List.getElem_mem htl)) H0.out.2.2.2.1 H0.out.2.2.1
          simp only [kvI] at hlook
          have hti : (t : Int) < rs.length := by omega
          have lN : N < wr.heap.size := Nat.lt_of_lt_of_le (lt_of_heap k1) hbel.size
          have HG : Hid (WordsIn wr c ((R.length + 63) / 64) u ∧ (∀ g (h : g < R.length), bitU u g = true ↔ R[g] ∈ rs.take t) ∧ Below w1.heap.size w1 wr ∧ gk = rs.length - t ∧ x = rs[t]) := ⟨hwd, hbits, hbel, hgt, hx⟩
          clear hwd hbits hbel hgt hx k1 k2 k3 k4 k5
          by_cases hm : x ∈ R
          · rw [decide_eq_true hm] at hlook
            obtain rfl := hv hm
            have hgl : R.idxOf x < R.length := List.idxOf_lt_length_iff.2 hm
            obtain ⟨gi, hgi⟩ : ∃ gi, gi = R.idxOf x := ⟨_, rfl⟩
            rw [← hgi] at hlook hgl
            have HM : Hid (gi = R.idxOf x) := hgi
            clear hm hgi
            go_wp2_with fail
            refine (setW_calls _ c ((R.length + 63) / 64) gi u (by omega) (by omega) (HG.out.1.later ((Below.refl _ _).alloc (Nat.le_refl _) _))).mono ?_
            rintro e w4 ⟨rfl, hwd4, vv, hb4⟩
            have hb5 : Below w1.heap.size w1 w4 := ((HG.out.2.2.1.alloc HG.out.2.2.1.size _).setCell F3.out.2.2 _).trans (hb4.mono (by have := HG.out.2.2.1.size; simp; omega))
            have HW : Hid (WordsIn w4 c ((R.length + 63) / 64) (fun i => if i = gi / 64 then u i ||| 2 ^ (gi % 64) else u i) ∧ Below w1.heap.size w1 w4) := ⟨hwd4, hb5⟩

            clear hwd4 hb4 hb5
            go_wp2_with fail
            go_roundg (rs.length - (t + 1))
            case measure => have := HG.out.2.2.2.1; omega
            case rel =>
              refine ⟨t + 1, _, by omega, by go_num, rfl, HW.out.1, ?_, HW.out.2⟩
              rw [HM.out]
              exact bits_hit H0.out.2.2.1 htl HG.out.2.2.2.2 HG.out.2.1
          · rw [decide_eq_false hm] at hlook
            have HM : Hid (x ∉ R) := hm
            clear hm hv
            go_wp2_with fail
            go_roundg (rs.length - (t + 1))
            case measure => have := HG.out.2.2.2.1; omega
            case rel =>
              exact ⟨t + 1, u, by omega, by go_num, rfl, HG.out.1.later ((Below.refl _ _).alloc (Nat.le_refl _) _), bits_miss htl HG.out.2.2.2.2 HM.out HG.out.2.1, HG.out.2.2.1.alloc HG.out.2.2.1.size _⟩
        · have et : t = rs.length := by omega
          rw [et, List.take_length] at hbits
          have hmp := F2.out.2.2.2.2.2.1.later hbel
          have hnew : ∀ y, (kl, y) ∉ m2 := fun y hy => by
            have := F1.out.2.2.1 _ hy
            rw [F2.out.2.2.2.2.2.2.2.2.1] at this
            cases this
          obtain ⟨w5, hput, hmp5, hturn⟩ := hmp.store law9 Try.underlying114 (v := .slice (some ⟨c, 0, none⟩) ((R.length + 63) / 64) ((R.length + 63) / 64)) (by have := F1.out.2.1; unfold maxLen; omega) F2.out.2.2.2.2.2.2.2.1 hnew
          have HG : Hid (WordsIn wr c ((R.length + 63) / 64) u ∧ (∀ g (h : g < R.length), bitU u g = true ↔ R[g] ∈ rs) ∧ Below w1.heap.size w1 wr ∧ MapIs w5 9 w.heap.size (n2 + 1) (D2.put kl (.held (.slice (some ⟨c, 0, none⟩) ((R.length + 63) / 64) ((R.length + 63) / 64)))) ((kl, .slice (some ⟨c, 0, none⟩) ((R.length + 63) / 64) ((R.length + 63) / 64)) :: m2) ∧ wr.mapTurned w5 w.heap.size) := ⟨hwd, hbits, hbel, hmp5, hturn⟩
          have hti : ¬ (t : Int) < rs.length := by omega
          simp only [kvT] at hput
          clear hwd hbits hbel hgt hmp5 hturn hmp hnew
          go_wp2_with fail
          go_roundg cnt1
          case measure => exact F2.out.2.2.2.2.1
          case rel =>
            obtain ⟨a1, a2, a3, a4, a5⟩ := HG.out
            obtain ⟨f1, f2, f3, f4, f5, f6, f7, f8, f9, f10⟩ := F2.out
            have hgr := a5.grown
            have hrg2 : wr.ranges Try.prog 9 rawR FB (w.heap.size + 1) n D (fun z => left z && !z.sameKey kl) cnt1 := by
              refine f4.kept (row := none) ⟨a3.os, a3.tape, a3.output, a3.size, fun k hk _ => a3.block k hk⟩ (by simp) (by simp)
            refine ⟨fun z => left z && !z.sameKey kl, n2 + 1, _, _, hrg2.kept hgr (by simp; omega) (by simp), a4, by have := F1.out.2.1; omega, fun e he => ?_, fun x hx hl => ?_, (f3.trans (a3.mono f3.size)).trans (⟨hgr.os, hgr.tape, hgr.output, hgr.size, fun k hk => hgr.block k (by have := f3.size; have := a3.size; omega) (fun e => by have := Option.some.inj e; omega)⟩)⟩
            · rcases List.mem_cons.1 he with rfl | he
              · simp [WideAt.sameKey_self (law9.key f8)]
              · simp [F1.out.2.2.1 e he]
            · rcases left_off hl with h1 | h1
              · obtain ⟨v, h2, h3⟩ := f7 x hx h1
                exact ⟨v, List.mem_cons_of_mem _ h2, (h3.later a3).turned a5⟩
              · refine ⟨_, by rw [h1]; exact List.mem_cons_self, c, u, rfl, a1.turned a5, ?_⟩
                have : x.2 = rs := H0.out.1.fn kl _ _ (by rw [← h1]; exact hx) f10
                rw [this]
                exact a2
end Go.Proofs.Qxb6612720a
