import Derived.Test.Qxb6612720aDv
import Derived.BigQuiet
namespace Go.Proofs.Qxb6612720a
open Go.RowKit
set_option maxRecDepth 100000

/-- What 'numberFits' makes sure of. -/
structure Fits (n : Nat) (ls : List (ByteArray × ByteArray × List (Int × Int))) (us : List (ByteArray × List (Int × Int))) : Prop where
  s : n ≤ 65536
  l : ls.length ≤ 65536
  u : us.length ≤ 65536
  l1 : ∀ k (h : k < ls.length), (ls[k]).1.size ≤ 1048576 ∧ (ls[k]).2.1.size ≤ 1048576 ∧ (ls[k]).2.2.all (inN n) = true
  u1 : ∀ k (h : k < us.length), (us[k]).1.size ≤ 1048576 ∧ (us[k]).2.all (inN n) = true
  lt : (ls.flatMap (·.2.2)).length ≤ 65536
  ut : (us.flatMap (·.2)).length ≤ 65536
  ld : ∀ i j (hi : i < ls.length) (hj : j < ls.length), j < i → ¬ ((ls[i]).1 = (ls[j]).1 ∧ (ls[i]).2.1 = (ls[j]).2.1)
  ud : ∀ i j (hi : i < us.length) (hj : j < us.length), j < i → (us[i]).1 ≠ (us[j]).1

def FitsOut (n : Nat) (ls : List (ByteArray × ByteArray × List (Int × Int))) (us : List (ByteArray × List (Int × Int))) (e : Ending) : Prop := ∃ v : Bool, e = .returned (.bool v) ∧ (v = true → Fits n ls us)

theorem FitsOut.no {n : Nat} {ls : List (ByteArray × ByteArray × List (Int × Int))} {us : List (ByteArray × List (Int × Int))} : FitsOut n ls us (.returned (.bool false)) := ⟨false, rfl, fun h => by cases h⟩

/-- The first k listed entries are small. -/
def Fit1 (n : Nat) (ls : List (ByteArray × ByteArray × List (Int × Int))) (k m : Nat) : Prop := 16 * ((ls.take k).flatMap (·.2.2)).length ≤ m ∧ ∀ i (h : i < ls.length), i < k → (ls[i]).1.size ≤ 1048576 ∧ (ls[i]).2.1.size ≤ 1048576 ∧ (ls[i]).2.2.all (inN n) = true
def Fit2 (n : Nat) (us : List (ByteArray × List (Int × Int))) (k m : Nat) : Prop := 16 * ((us.take k).flatMap (·.2)).length ≤ m ∧ ∀ i (h : i < us.length), i < k → (us[i]).1.size ≤ 1048576 ∧ (us[i]).2.all (inN n) = true
def Fit3 (ls : List (ByteArray × ByteArray × List (Int × Int))) (k : Nat) : Prop := ∀ i j (hi : i < ls.length) (hj : j < ls.length), i < k → j < i → ¬ ((ls[i]).1 = (ls[j]).1 ∧ (ls[i]).2.1 = (ls[j]).2.1)
def Fit4 (us : List (ByteArray × List (Int × Int))) (k : Nat) : Prop := ∀ i j (hi : i < us.length) (hj : j < us.length), i < k → j < i → (us[i]).1 ≠ (us[j]).1

theorem Fit1.next {n : Nat} {ls : List (ByteArray × ByteArray × List (Int × Int))} {k m m' : Nat} (h : Fit1 n ls k m) (hk : k < ls.length) (h1 : (ls[k]).1.size ≤ 1048576) (h2 : (ls[k]).2.1.size ≤ 1048576) (h3 : (ls[k]).2.2.all (inN n) = true) (hm : m + 16 * (ls[k]).2.2.length ≤ m') : Fit1 n ls (k + 1) m' := by
  refine ⟨?_, fun i hi hik => ?_⟩
  · rw [flat_next hk, List.length_append]
    have := h.1
    omega
  · by_cases e : i = k
    · subst e; exact ⟨h1, h2, h3⟩
    · exact h.2 i hi (by omega)
theorem Fit2.next {n : Nat} {us : List (ByteArray × List (Int × Int))} {k m m' : Nat} (h : Fit2 n us k m) (hk : k < us.length) (h1 : (us[k]).1.size ≤ 1048576) (h3 : (us[k]).2.all (inN n) = true) (hm : m + 16 * (us[k]).2.length ≤ m') : Fit2 n us (k + 1) m' := by
  refine ⟨?_, fun i hi hik => ?_⟩
  · rw [flat_next hk, List.length_append]
    have := h.1
    omega
  · by_cases e : i = k
    · subst e; exact ⟨h1, h3⟩
    · exact h.2 i hi (by omega)

theorem bytes_ne {a b : ByteArray} (h : a ≠ b) : (a.toList == b.toList) = false := by
  have h2 : a.toList ≠ b.toList := fun e => h (by
    rw [ByteArray.toList_eq, ByteArray.toList_eq] at e
    cases a
    cases b
    simpa using e)
  simpa using h2

theorem drewn {B : Nat} {a w : World} (h : Below B a w) (n : Nat) : Below B a (w.drewN n) := ⟨h.os, h.tape, h.output, h.size, h.block⟩

set_option maxHeartbeats 4000000 in
theorem fits_calls (w : World) (aS aL aU : Option Addr) (nS cS cL cU : Nat) (ls : List (ByteArray × ByteArray × List (Int × Int))) (us : List (ByteArray × List (Int × Int)))
    (hL : ListedIn w aL ls) (hU : UnlistedIn w aU us) :
    Calls Try.prog 12 #[.slice aS nS cS, .slice aL ls.length cL, .slice aU us.length cU] w fun e w' => FitsOut nS ls us e ∧ Below w.heap.size w w' := by
  have HI : Hid (ListedIn w aL ls ∧ UnlistedIn w aU us) := ⟨hL, hU⟩
  clear hL hU
  go_enter Try.func12, Try.ntmps12
  by_cases c1 : (65536 : Int) < nS
  · go_wp2
    go_ret
    exact ⟨FitsOut.no, Below.refl _ _⟩
  by_cases c2 : (65536 : Int) < ls.length
  · go_wp2
    go_ret
    exact ⟨FitsOut.no, Below.refl _ _⟩
  by_cases c3 : (65536 : Int) < us.length
  · go_wp2
    go_ret
    exact ⟨FitsOut.no, Below.refl _ _⟩
  by_cases c4 : (1048576 : Int) < 16 * nS + 8 * ls.length + 8 * us.length
  · go_wp2
    go_ret
    exact ⟨FitsOut.no, Below.refl _ _⟩
  go_wp2_with fail
  go_loopg [7, 8] ls.length (fun j v i wr => ∃ k n : Nat, k ≤ ls.length ∧ n ≤ 1048576 ∧ v = .int .i64 n ∧ i = .int .i64 k ∧ j = ls.length - k ∧ Fit1 nS ls k n ∧ Below w.heap.size w wr)
  case atStart => exact ⟨0, 16 * nS + 8 * ls.length + 8 * us.length, Nat.zero_le _, by omega, by go_num, rfl, rfl, ⟨by simp, fun i _ h0 => absurd h0 (by omega)⟩, Below.refl _ _⟩
  case round =>
    obtain ⟨k, n, hk, hn, rfl, rfl, hgk, hfit, hbel⟩ := hrel
    by_cases hlt : k < ls.length
    · rcases HI.out.1 with h0 | ⟨b, off, rfl, hc⟩
      · rw [h0] at hlt; simp at hlt
      · obtain ⟨x0, x1, ra, rc, x2, hrf⟩ := hc k hlt
        have y0 := cell_later hbel x0
        have y1 := cell_later hbel x1
        have y2 := cell_later hbel x2
        obtain ⟨A, hA⟩ : ∃ A, A = (ls[k]).1 := ⟨_, rfl⟩
        obtain ⟨B, hB⟩ : ∃ B, B = (ls[k]).2.1 := ⟨_, rfl⟩
        obtain ⟨rs, hrs⟩ : ∃ rs, rs = (ls[k]).2.2 := ⟨_, rfl⟩
        rw [← hA] at y0
        rw [← hB] at y1
        rw [← hrs] at y2 hrf
        have HE : Hid (A = (ls[k]).1 ∧ B = (ls[k]).2.1 ∧ rs = (ls[k]).2.2 ∧ RefsIn wr ra rs ∧ Fit1 nS ls k n ∧ Below w.heap.size w wr ∧ gk = ls.length - k) := ⟨hA, hB, hrs, hrf.later hbel, hfit, hbel, hgk⟩
        have hki : (k : Int) < ls.length := by omega
        clear hc x0 x1 x2 hA hB hrs hrf hfit hbel hgk
        by_cases d1 : (1048576 : Int) < A.size
        · go_wp2
          go_ret
          exact ⟨FitsOut.no, HE.out.2.2.2.2.2.1⟩
        by_cases d2 : (1048576 : Int) < B.size
        · go_wp2
          go_ret
          exact ⟨FitsOut.no, HE.out.2.2.2.2.2.1⟩
        by_cases d3 : (65536 : Int) < rs.length
        · go_wp2
          go_ret
          exact ⟨FitsOut.no, HE.out.2.2.2.2.2.1⟩
        go_wp2_with fail
        go_quiet (fail)
        have HN : Hid (Below w.heap.size w (wr.drewN nq) ∧ RefsIn (wr.drewN nq) ra rs) := ⟨drewn HE.out.2.2.2.2.2.1 nq, HE.out.2.2.2.1.later (drewn (Below.refl _ _) nq)⟩
        by_cases d4 : (1048576 : Int) < n + (48 + A.size + B.size + 16 * rs.length)
        · go_wp2
          go_ret
          exact ⟨FitsOut.no, HN.out.1⟩
        go_wp2_with fail
        refine (range_calls _ ra rc nS rs HN.out.2 (by omega)).mono ?_
        rintro e w2 ⟨rfl, rfl⟩
        cases hall : rs.all (inN nS)
        · go_wp2
          go_ret
          exact ⟨FitsOut.no, HN.out.1⟩
        go_wp2_with fail
        go_roundg (ls.length - (k + 1))
        case measure => have := HE.out.2.2.2.2.2.2; omega
        case rel =>
          obtain ⟨e1, e2, e3, _, e5, e6, _⟩ := HE.out
          refine ⟨k + 1, n + (48 + A.size + B.size + 16 * rs.length), by omega, by omega, by go_num, by go_num, rfl, e5.next hlt (by rw [← e1]; omega) (by rw [← e2]; omega) (by rw [← e3]; exact hall) (by rw [← e3]; omega), HN.out.1⟩
    · have ek : k = ls.length := by omega
      subst ek
      have H1 : Hid (Fit1 nS ls ls.length n) := hfit
      have HB1 : Hid (Below w.heap.size w wr) := hbel
      clear hfit hbel hgk hlt hk
      go_wp2_with fail
      obtain ⟨wv, hwv⟩ : ∃ wv, wv = wr := ⟨_, rfl⟩
      obtain ⟨gv, hgv⟩ : ∃ gv, gv = gk := ⟨_, rfl⟩
      subst hwv hgv
      go_loopg [7, 9] us.length (fun j v i wr => ∃ k m : Nat, k ≤ us.length ∧ m ≤ 1048576 ∧ v = .int .i64 m ∧ i = .int .i64 k ∧ j = us.length - k ∧ Fit2 nS us k m ∧ Below w.heap.size w wr)
      case atStart => exact ⟨0, n, Nat.zero_le _, hn, rfl, rfl, rfl, ⟨by simp, fun i _ h0 => absurd h0 (by omega)⟩, HB1.out⟩
      case round =>
        obtain ⟨k, m, hk, hm, rfl, rfl, hgk, hfit, hbel⟩ := hrel
        by_cases hlt : k < us.length
        · rcases HI.out.2 with h0 | ⟨b, off, rfl, hc⟩
          · rw [h0] at hlt; simp at hlt
          · obtain ⟨x0, ra, rc, x2, hrf⟩ := hc k hlt
            have y0 := cell_later hbel x0
            have y2 := cell_later hbel x2
            obtain ⟨A, hA⟩ : ∃ A, A = (us[k]).1 := ⟨_, rfl⟩
            obtain ⟨rs, hrs⟩ : ∃ rs, rs = (us[k]).2 := ⟨_, rfl⟩
            rw [← hA] at y0
            rw [← hrs] at y2 hrf
            have HE : Hid (A = (us[k]).1 ∧ rs = (us[k]).2 ∧ RefsIn wr ra rs ∧ Fit2 nS us k m ∧ Below w.heap.size w wr ∧ gk = us.length - k) := ⟨hA, hrs, hrf.later hbel, hfit, hbel, hgk⟩
            have hki : (k : Int) < us.length := by omega
            clear hc x0 x2 hA hrs hrf hfit hbel hgk
            by_cases d1 : (1048576 : Int) < A.size
            · go_wp2
              go_ret
              exact ⟨FitsOut.no, HE.out.2.2.2.2.1⟩
            by_cases d3 : (65536 : Int) < rs.length
            · go_wp2
              go_ret
              exact ⟨FitsOut.no, HE.out.2.2.2.2.1⟩
            go_wp2_with fail
            go_quiet (fail)
            have HN : Hid (Below w.heap.size w (wr.drewN nq) ∧ RefsIn (wr.drewN nq) ra rs) := ⟨drewn HE.out.2.2.2.2.1 nq, HE.out.2.2.1.later (drewn (Below.refl _ _) nq)⟩
            by_cases d4 : (1048576 : Int) < m + (32 + A.size + 16 * rs.length)
            · go_wp2
              go_ret
              exact ⟨FitsOut.no, HN.out.1⟩
            go_wp2_with fail
            refine (range_calls _ ra rc nS rs HN.out.2 (by omega)).mono ?_
            rintro e w2 ⟨rfl, rfl⟩
            cases hall : rs.all (inN nS)
            · go_wp2
              go_ret
              exact ⟨FitsOut.no, HN.out.1⟩
            go_wp2_with fail
            go_roundg (us.length - (k + 1))
            case measure => have := HE.out.2.2.2.2.2; omega
            case rel =>
              obtain ⟨e1, e3, _, e5, e6, _⟩ := HE.out
              refine ⟨k + 1, m + (32 + A.size + 16 * rs.length), by omega, by omega, by go_num, by go_num, rfl, e5.next hlt (by rw [← e1]; omega) (by rw [← e3]; exact hall) (by rw [← e3]; omega), HN.out.1⟩
        · have ek : k = us.length := by omega
          subst ek
          have H2 : Hid (Fit2 nS us us.length m) := hfit
          have HB2 : Hid (Below w.heap.size w wr) := hbel
          clear hfit hbel hgk hlt hk
          go_wp2_with fail
          obtain ⟨wu, hwu⟩ : ∃ wu, wu = wr := ⟨_, rfl⟩
          obtain ⟨gu, hgu⟩ : ∃ gu, gu = gk := ⟨_, rfl⟩
          subst hwu hgu
          go_loopg [10] ls.length (fun j i wr => ∃ k : Nat, k ≤ ls.length ∧ i = .int .i64 k ∧ j = ls.length - k ∧ Fit3 ls k ∧ Below w.heap.size w wr)
          case atStart => exact ⟨0, Nat.zero_le _, rfl, rfl, fun i j _ _ h0 => absurd h0 (by omega), HB2.out⟩
          case round =>
            obtain ⟨k, hk, rfl, hgk, hfit, hbel⟩ := hrel
            by_cases hlt : k < ls.length
            · have HC : Hid (Fit3 ls k ∧ Below w.heap.size w wr ∧ gk = ls.length - k) := ⟨hfit, hbel, hgk⟩
              have hki : (k : Int) < ls.length := by omega
              clear hfit hbel hgk
              go_wp2_with fail
              obtain ⟨wy, hwy⟩ : ∃ wy, wy = wr := ⟨_, rfl⟩
              obtain ⟨gy, hgy⟩ : ∃ gy, gy = gk := ⟨_, rfl⟩
              subst hwy hgy
              go_loopg [11] k (fun j i wr => ∃ t : Nat, t ≤ k ∧ i = .int .i64 t ∧ j = k - t ∧ (∀ j (hj : j < ls.length), j < t → ¬ ((ls[k]).1 = (ls[j]).1 ∧ (ls[k]).2.1 = (ls[j]).2.1)) ∧ Below w.heap.size w wr)
              case atStart => exact ⟨0, Nat.zero_le _, rfl, rfl, fun j _ h0 => absurd h0 (by omega), HC.out.2.1⟩
              case round =>
                obtain ⟨t, ht, rfl, hgt, hno, hbel⟩ := hrel
                by_cases htl : t < k
                · rcases HI.out.1 with h0 | ⟨b, off, rfl, hc⟩
                  · rw [h0] at hlt; simp at hlt
                  · obtain ⟨x0, x1, _, _, _, _⟩ := hc k hlt
                    obtain ⟨z0, z1, _, _, _, _⟩ := hc t (by omega)
                    have y0 := cell_later hbel x0
                    have y1 := cell_later hbel x1
                    have v0 := cell_later hbel z0
                    have v1 := cell_later hbel z1
                    obtain ⟨A, hA⟩ : ∃ A, A = (ls[k]).1 := ⟨_, rfl⟩
                    obtain ⟨B, hB⟩ : ∃ B, B = (ls[k]).2.1 := ⟨_, rfl⟩
                    obtain ⟨C, hC⟩ : ∃ C, C = (ls[t]).1 := ⟨_, rfl⟩
                    obtain ⟨D, hD⟩ : ∃ D, D = (ls[t]).2.1 := ⟨_, rfl⟩
                    rw [← hA] at y0
                    rw [← hB] at y1
                    rw [← hC] at v0
                    rw [← hD] at v1
                    have HE : Hid (A = (ls[k]).1 ∧ B = (ls[k]).2.1 ∧ C = (ls[t]).1 ∧ D = (ls[t]).2.1 ∧ (∀ j (hj : j < ls.length), j < t → ¬ ((ls[k]).1 = (ls[j]).1 ∧ (ls[k]).2.1 = (ls[j]).2.1)) ∧ Below w.heap.size w wr ∧ gk = k - t) := ⟨hA, hB, hC, hD, hno, hbel, hgt⟩
                    have hti : (t : Int) < k := by omega
                    have htj : (t : Int) < ls.length := by omega
                    clear hc x0 x1 z0 z1 hA hB hC hD hno hbel hgt
                    have hnext : Hid (¬ (A = C ∧ B = D) → ∀ j (hj : j < ls.length), j < t + 1 → ¬ ((ls[k]).1 = (ls[j]).1 ∧ (ls[k]).2.1 = (ls[j]).2.1)) := by
                      intro hne j hj hjt
                      obtain ⟨e1, e2, e3, e4, e5, _, _⟩ := HE.out
                      by_cases ej : j = t
                      · subst ej
                        rw [← e1, ← e2, ← e3, ← e4]
                        exact hne
                      · exact e5 j hj (by omega)
                    by_cases q1 : A = C
                    · by_cases q2 : B = D
                      · subst q1 q2
                        go_wp2_with fail
                        go_quiet (fail)
                        go_wp2
                        go_ret
                        exact ⟨FitsOut.no, drewn HE.out.2.2.2.2.2.1 _⟩
                      · have HQ : Hid (¬ (A = C ∧ B = D)) := fun h => q2 h.2
                        have q3 : (B.toList == D.toList) = false := bytes_ne q2
                        clear q2
                        subst q1
                        go_wp2_with fail
                        go_quiet (fail)
                        go_wp2
                        go_roundg (k - (t + 1))
                        case measure => have := HE.out.2.2.2.2.2.2; omega
                        case rel => exact ⟨t + 1, by omega, by go_num, rfl, hnext.out HQ.out, drewn HE.out.2.2.2.2.2.1 _⟩
                    · have HQ : Hid (¬ (A = C ∧ B = D)) := fun h => q1 h.1
                      have q3 : (A.toList == C.toList) = false := bytes_ne q1
                      clear q1
                      go_wp2_with fail
                      go_quiet (fail)
                      go_wp2
                      go_roundg (k - (t + 1))
                      case measure => have := HE.out.2.2.2.2.2.2; omega
                      case rel => exact ⟨t + 1, by omega, by go_num, rfl, hnext.out HQ.out, drewn HE.out.2.2.2.2.2.1 _⟩
                · have ek : t = k := by omega
                  subst ek
                  have HE : Hid ((∀ j (hj : j < ls.length), j < t → ¬ ((ls[t]).1 = (ls[j]).1 ∧ (ls[t]).2.1 = (ls[j]).2.1)) ∧ Below w.heap.size w wr) := ⟨hno, hbel⟩
                  clear hno hbel hgt
                  go_wp2_with fail
                  go_roundg (ls.length - (t + 1))
                  case measure => have := HC.out.2.2; omega
                  case rel =>
                    refine ⟨t + 1, by omega, by go_num, rfl, fun i j hi hj hit hji => ?_, HE.out.2⟩
                    by_cases e : i = t
                    · subst e
                      exact HE.out.1 j hj hji
                    · exact HC.out.1 i j hi hj (by omega) hji
            · have ek : k = ls.length := by omega
              subst ek
              have H3 : Hid (Fit3 ls ls.length) := hfit
              have HB3 : Hid (Below w.heap.size w wr) := hbel
              clear hfit hbel hgk hlt hk
              go_wp2_with fail
              obtain ⟨wt, hwt⟩ : ∃ wt, wt = wr := ⟨_, rfl⟩
              obtain ⟨gt, hgt⟩ : ∃ gt, gt = gk := ⟨_, rfl⟩
              subst hwt hgt
              go_loopg [12] us.length (fun j i wr => ∃ k : Nat, k ≤ us.length ∧ i = .int .i64 k ∧ j = us.length - k ∧ Fit4 us k ∧ Below w.heap.size w wr)
              case atStart => exact ⟨0, Nat.zero_le _, rfl, rfl, fun i j _ _ h0 => absurd h0 (by omega), HB3.out⟩
              case round =>
                obtain ⟨k, hk, rfl, hgk, hfit, hbel⟩ := hrel
                by_cases hlt : k < us.length
                · have HC : Hid (Fit4 us k ∧ Below w.heap.size w wr ∧ gk = us.length - k) := ⟨hfit, hbel, hgk⟩
                  have hki : (k : Int) < us.length := by omega
                  clear hfit hbel hgk
                  go_wp2_with fail
                  obtain ⟨wy, hwy⟩ : ∃ wy, wy = wr := ⟨_, rfl⟩
                  obtain ⟨gy, hgy⟩ : ∃ gy, gy = gk := ⟨_, rfl⟩
                  subst hwy hgy
                  go_loopg [13] k (fun j i wr => ∃ t : Nat, t ≤ k ∧ i = .int .i64 t ∧ j = k - t ∧ (∀ j (hj : j < us.length), j < t → (us[k]).1 ≠ (us[j]).1) ∧ Below w.heap.size w wr)
                  case atStart => exact ⟨0, Nat.zero_le _, rfl, rfl, fun j _ h0 => absurd h0 (by omega), HC.out.2.1⟩
                  case round =>
                    obtain ⟨t, ht, rfl, hgt, hno, hbel⟩ := hrel
                    by_cases htl : t < k
                    · rcases HI.out.2 with h0 | ⟨b, off, rfl, hc⟩
                      · rw [h0] at hlt; simp at hlt
                      · obtain ⟨x0, _, _, _, _⟩ := hc k hlt
                        obtain ⟨z0, _, _, _, _⟩ := hc t (by omega)
                        have y0 := cell_later hbel x0
                        have v0 := cell_later hbel z0
                        obtain ⟨A, hA⟩ : ∃ A, A = (us[k]).1 := ⟨_, rfl⟩
                        obtain ⟨C, hC⟩ : ∃ C, C = (us[t]).1 := ⟨_, rfl⟩
                        rw [← hA] at y0
                        rw [← hC] at v0
                        have HE : Hid (A = (us[k]).1 ∧ C = (us[t]).1 ∧ (∀ j (hj : j < us.length), j < t → (us[k]).1 ≠ (us[j]).1) ∧ Below w.heap.size w wr ∧ gk = k - t) := ⟨hA, hC, hno, hbel, hgt⟩
                        have hti : (t : Int) < k := by omega
                        have htj : (t : Int) < us.length := by omega
                        clear hc x0 z0 hA hC hno hbel hgt
                        have hnext : Hid (A ≠ C → ∀ j (hj : j < us.length), j < t + 1 → (us[k]).1 ≠ (us[j]).1) := by
                          intro hne j hj hjt
                          obtain ⟨e1, e3, e5, _, _⟩ := HE.out
                          by_cases ej : j = t
                          · subst ej
                            rw [← e1, ← e3]
                            exact hne
                          · exact e5 j hj (by omega)
                        by_cases q1 : A = C
                        · subst q1
                          go_wp2_with fail
                          go_quiet (fail)
                          go_wp2
                          go_ret
                          exact ⟨FitsOut.no, drewn HE.out.2.2.2.1 _⟩
                        · have HQ : Hid (A ≠ C) := q1
                          have q3 : (A.toList == C.toList) = false := bytes_ne q1
                          clear q1
                          go_wp2_with fail
                          go_quiet (fail)
                          go_wp2
                          go_roundg (k - (t + 1))
                          case measure => have := HE.out.2.2.2.2; omega
                          case rel => exact ⟨t + 1, by omega, by go_num, rfl, hnext.out HQ.out, drewn HE.out.2.2.2.1 _⟩
                    · have ek : t = k := by omega
                      subst ek
                      have HE : Hid ((∀ j (hj : j < us.length), j < t → (us[t]).1 ≠ (us[j]).1) ∧ Below w.heap.size w wr) := ⟨hno, hbel⟩
                      clear hno hbel hgt
                      go_wp2_with fail
                      go_roundg (us.length - (t + 1))
                      case measure => have := HC.out.2.2; omega
                      case rel =>
                        refine ⟨t + 1, by omega, by go_num, rfl, fun i j hi hj hit hji => ?_, HE.out.2⟩
                        by_cases e : i = t
                        · subst e
                          exact HE.out.1 j hj hji
                        · exact HC.out.1 i j hi hj (by omega) hji
                · have ek : k = us.length := by omega
                  subst ek
                  have H4 : Hid (Fit4 us us.length) := hfit
                  have HB4 : Hid (Below w.heap.size w wr) := hbel
                  clear hfit hbel hgk hlt hk
                  go_wp2
                  go_ret
                  refine ⟨⟨true, rfl, fun _ => ?_⟩, HB4.out⟩
                  obtain ⟨p1, p2⟩ := H1.out
                  obtain ⟨p3, p4⟩ := H2.out
                  rw [List.take_length] at p1 p3
                  exact ⟨by omega, by omega, by omega, fun k hk => p2 k hk hk, fun k hk => p4 k hk hk, by omega, by omega, fun i j hi hj hji => H3.out i j hi hj hi hji, fun i j hi hj hji => H4.out i j hi hj hi hji⟩
end Go.Proofs.Qxb6612720a
