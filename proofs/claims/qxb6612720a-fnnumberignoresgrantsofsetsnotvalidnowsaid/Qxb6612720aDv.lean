import Derived.Test.Qxb6612720aDist
namespace Go.Proofs.Qxb6612720a
open Go.RowKit
set_option maxRecDepth 100000

/-- Is a grant's set open now? -/
def okW (ws : List (Int × Int)) (now : Int) (x : Int × Int) : Bool := openAt (ws.getD x.1.toNat (0, 0)) now

theorem info60 : (Try.prog.info? 60).map (fun i => (i.zero, i.size, i.bytes)) = some (some (.agg #[.int .i64 0, .int .i64 0]), 2, 16) := by kernel_rfl

theorem WinIn.at {w : World} {a : Option Addr} {ws : List (Int × Int)} (h : WinIn w a ws) (j : Nat) (hj : j < ws.length) : ∃ b off, a = some ⟨b, off, none⟩ ∧ w.cell? ⟨b, off + j * 2, none⟩ = some (.int .i64 (ws.getD j (0, 0)).1) ∧ w.cell? ⟨b, off + j * 2 + 1, none⟩ = some (.int .i64 (ws.getD j (0, 0)).2) := by
  rcases h with h0 | ⟨b, off, ha, hc⟩
  · rw [h0] at hj; simp at hj
  · have e : ws.getD j (0, 0) = ws[j] := by simp [List.getD, hj]
    rw [e]
    exact ⟨b, off, ha, (hc j hj).1, (hc j hj).2⟩

theorem two_new (w : World) (x y : Value) (t : TypeId) : ∀ j u, [x, y][j]? = some u → (w.alloc (.cells #[x, y] t)).cell? ((⟨w.heap.size, 0, none⟩ : Addr).add j) = some u := by
  intro j u hu
  rw [WideShapes.add_plain, Nat.zero_add]
  refine cell_of_block (new_block0 _ _ _ rfl) ?_
  match j, hu with
  | 0, hu => simpa using hu
  | 1, hu => simpa using hu

theorem gather_next {ok : Int × Int → Bool} {S rs : List (Int × Int)} {t : Nat} (h : t < rs.length) : gather ok S (rs.take (t + 1)) = step ok (gather ok S (rs.take t)) rs[t] := by
  rw [List.take_succ_eq_append_getElem h, gather_append]
  rfl
theorem step_no {ok : Int × Int → Bool} {S : List (Int × Int)} {x : Int × Int} (h : ok x = false) : step ok S x = S := by simp [step, h]
theorem step_old {ok : Int × Int → Bool} {S : List (Int × Int)} {x : Int × Int} (h : x ∈ S) : step ok S x = S := by simp [step, h]
theorem step_new {ok : Int × Int → Bool} {S : List (Int × Int)} {x : Int × Int} (h : ok x = true) (hx : x ∉ S) : step ok S x = S ++ [x] := by simp [step, h, hx]
theorem flat_next {α β : Type} {xs : List α} {f : α → List β} {k : Nat} (h : k < xs.length) : (xs.take (k + 1)).flatMap f = (xs.take k).flatMap f ++ f xs[k] := by
  rw [List.take_succ_eq_append_getElem h, List.flatMap_append, List.flatMap_singleton]
theorem flat_le {α β : Type} (xs : List α) (f : α → List β) (k : Nat) : ((xs.take k).flatMap f).length ≤ (xs.flatMap f).length := by
  conv => rhs; rw [← List.take_append_drop k xs]
  rw [List.flatMap_append, List.length_append]
  omega

theorem Own.block_ge {w : World} {B : Nat} {t : TypeId} {v : Value} {rs : List (Int × Int)} (h : Own w B t v rs) {k : Nat} (hk : v.ownBlock = some k) : B ≤ k := by
  rcases h.2 with ⟨h1, _⟩ | ⟨g, cap, cur, h1, h2, _⟩
  · rw [h1] at hk; cases hk
  · rw [h1] at hk
    cases hk
    exact h2

theorem Own.push {w : World} {B : Nat} {t : TypeId} {v : Value} {rs : List (Int × Int)} {x y : Int} (h : w.ownsRow B t 2 v (rs.length + 1) (rcells rs ++ [.int .i64 x, .int .i64 y])) : Own w B t v (rs ++ [(x, y)]) := by
  unfold Own
  rw [rcells_append, List.length_append]
  exact h

set_option maxHeartbeats 4000000 in
theorem distinct_calls (w : World) (aS aL aU : Option Addr) (cS cL cU : Nat) (ws : List (Int × Int)) (ls : List (ByteArray × ByteArray × List (Int × Int))) (us : List (ByteArray × List (Int × Int))) (now : Int)
    (hS : WinIn w aS ws) (hL : ListedIn w aL ls) (hU : UnlistedIn w aU us) (b2 : ls.length ≤ 65536) (b3 : us.length ≤ 65536)
    (r1 : ∀ e ∈ ls, e.2.2.all (inN ws.length) = true) (r2 : ∀ e ∈ us, e.2.all (inN ws.length) = true) (t1 : (ls.flatMap (·.2.2)).length ≤ 100000) (t2 : (us.flatMap (·.2)).length ≤ 100000) :
    Calls Try.prog 19 #[.slice aS ws.length cS, .slice aL ls.length cL, .slice aU us.length cU, .int .i64 now] w fun e w' => e = .returned (.int .i64 (gather (okW ws now) [] (ls.flatMap (·.2.2) ++ us.flatMap (·.2))).length) ∧ Below w.heap.size w w' := by
  obtain ⟨i0, hi, hz0, hz1, hz2⟩ := info_parts info60
  have HI : Hid (WinIn w aS ws ∧ ListedIn w aL ls ∧ UnlistedIn w aU us) := ⟨hS, hL, hU⟩
  have HR : Hid ((∀ e ∈ ls, e.2.2.all (inN ws.length) = true) ∧ (∀ e ∈ us, e.2.all (inN ws.length) = true) ∧ (ls.flatMap (·.2.2)).length ≤ 100000 ∧ (us.flatMap (·.2)).length ≤ 100000) := ⟨r1, r2, t1, t2⟩
  clear hS hL hU r1 r2 t1 t2
  go_enter Try.func19, Try.ntmps19
  go_wp2_with fail
  go_loopg [9, 10] ls.length (fun j v i wr => ∃ k : Nat, k ≤ ls.length ∧ i = .int .i64 k ∧ j = ls.length - k ∧ Own wr w.heap.size 60 v (gather (okW ws now) [] ((ls.take k).flatMap (·.2.2))) ∧ Below w.heap.size w wr)
  case atStart => exact ⟨0, Nat.zero_le _, rfl, rfl, Own.nil _ _ _, Below.refl _ _⟩
  case round =>
    obtain ⟨k, hk, rfl, hgk, hown, hbel⟩ := hrel
    obtain ⟨sa, sc, rfl, -⟩ := hown.refs
    by_cases hlt : k < ls.length
    · rcases HI.out.2.1 with h0 | ⟨b, off, rfl, hc⟩
      · rw [h0] at hlt; simp at hlt
      · obtain ⟨_, _, ra, rc, x2, hrf⟩ := hc k hlt
        obtain ⟨rs, hrs⟩ : ∃ rs, rs = (ls[k]).2.2 := ⟨_, rfl⟩
        rw [← hrs] at x2 hrf
        obtain ⟨S0, hS0⟩ : ∃ S0, S0 = gather (okW ws now) [] ((ls.take k).flatMap (·.2.2)) := ⟨_, rfl⟩
        rw [← hS0] at hown ⊢
        have hS0l : S0.length + rs.length ≤ 250000 := by
          have h1 := gather_le (ok := okW ws now) ((ls.take k).flatMap (·.2.2)) []
          have h2 := flat_le ls (·.2.2) (k + 1)
          rw [flat_next hlt, List.length_append, ← hrs] at h2
          have h3 := HR.out.2.2
          rw [← hS0] at h1
          rw [List.length_nil] at h1
          omega
        have HE : Hid (rs = (ls[k]).2.2 ∧ S0 = gather (okW ws now) [] ((ls.take k).flatMap (·.2.2))) := ⟨hrs, hS0⟩
        have HX : Hid (∀ w', Below w.heap.size w w' → w'.cell? ⟨b, off + k * 3 + 2, none⟩ = some (.slice ra rs.length rc)) := fun w' hb => cell_later hb x2
        have HC : Hid (Own wr w.heap.size 60 (.slice sa S0.length sc) S0 ∧ Below w.heap.size w wr ∧ gk = ls.length - k ∧ RefsIn w ra rs) := ⟨hown, hbel, hgk, hrf⟩
        have hki : (k : Int) < ls.length := by omega
        clear hrs hS0 x2 hown hbel hgk hrf hc
        go_wp2_with fail
        obtain ⟨wy, hwy⟩ : ∃ wy, wy = wr := ⟨_, rfl⟩
        obtain ⟨gy, hgy⟩ : ∃ gy, gy = gk := ⟨_, rfl⟩
        subst hwy hgy
        go_loopg [9, 11] rs.length (fun j v i wr => ∃ t : Nat, t ≤ rs.length ∧ i = .int .i64 t ∧ j = rs.length - t ∧ Own wr w.heap.size 60 v (gather (okW ws now) S0 (rs.take t)) ∧ Below w.heap.size w wr)
        case atStart => exact ⟨0, Nat.zero_le _, rfl, rfl, HC.out.1, HC.out.2.1⟩
        case round =>
          obtain ⟨t, ht, rfl, hgt, hown, hbel⟩ := hrel
          obtain ⟨ta, tc, rfl, hrf⟩ := hown.refs
          have y2 := HX.out wr hbel
          by_cases htl : t < rs.length
          · obtain ⟨q, hq⟩ : ∃ q, q = rs[t] := ⟨_, rfl⟩
            have hqr : inN ws.length q = true := by
              have h1 := HR.out.1 _ (List.getElem_mem hlt)
              rw [← HE.out.1] at h1
              rw [hq]
              exact List.all_eq_true.1 h1 _ (List.getElem_mem htl)
            simp [inN] at hqr
            obtain ⟨z, hz⟩ : ∃ z : Nat, q.1 = z := ⟨q.1.toNat, by omega⟩
            rcases HC.out.2.2.2 with h0 | ⟨rb, ro, rfl, hcr⟩
            · rw [h0] at htl; simp at htl
            · obtain ⟨p0, p1⟩ := hcr t htl
              have q0 := cell_later hbel p0
              have q1 := cell_later hbel p1
              rw [← hq] at q0 q1
              rw [hz] at q0
              obtain ⟨wb, wo, rfl, v0, v1⟩ := (HI.out.1.later hbel).at z (by omega)
              obtain ⟨S1, hS1⟩ : ∃ S1, S1 = gather (okW ws now) S0 (rs.take t) := ⟨_, rfl⟩
              have hS1l : S1.length ≤ 300000 := by
                have h1 := gather_le (ok := okW ws now) (rs.take t) S0
                rw [← hS1] at h1
                simp at h1
                omega
              rw [← hS1] at hown hrf ⊢
              have hok : okW ws now q = openAt (ws.getD z (0, 0)) now := by unfold okW; rw [hz]; rfl
              have hqz : q = ((z : Int), q.2) := Prod.ext hz rfl
              have HG : Hid (Own wr w.heap.size 60 (.slice ta S1.length tc) S1 ∧ Below w.heap.size w wr ∧ gk = rs.length - t ∧ gather (okW ws now) S0 (rs.take (t + 1)) = step (okW ws now) S1 ((z : Int), q.2) ∧ RefsIn wr ta S1 ∧ okW ws now ((z : Int), q.2) = openAt (ws.getD z (0, 0)) now) := ⟨hown, hbel, hgt, by rw [gather_next htl, ← hS1, ← hq, ← hqz], hrf, by rw [← hqz]; exact hok⟩
              obtain ⟨q2, hq2⟩ : ∃ q2, q2 = q.2 := ⟨_, rfl⟩
              rw [← hq2] at HG q1
              have hwsz : w.heap.size ≤ wr.heap.size := hbel.size
              have hti : (t : Int) < rs.length := by omega
              have hzi : (z : Int) < ws.length := by omega
              have lr := World.block_lt_of_cell? wr ⟨rb, ro + t * 2, none⟩ q0
              have lw := World.block_lt_of_cell? wr ⟨wb, wo + z * 2, none⟩ v0
              have lb := World.block_lt_of_cell? wr ⟨b, off + k * 3 + 2, none⟩ y2
              simp only at lr lw lb
              clear hown hbel hgt hS1 hq hrf hok p0 p1 hcr hqr hz hqz hq2
              go_wp2_with fail
              refine (validAt_calls _ (ws.getD z (0, 0)) now).mono ?_
              rintro e w2 ⟨rfl, hb2⟩
              have HB2 : Hid (Below wr.heap.size wr w2) := ((Below.refl _ _).alloc (Nat.le_refl _) _).trans (hb2.mono (by simp))
              have s0 : w2.cell? ⟨wr.heap.size, 0, none⟩ = some (.int .i64 z) := by rw [hb2.cell (by simp)]; go_simp
              have s1 : w2.cell? ⟨wr.heap.size, 1, none⟩ = some (.int .i64 q2) := by rw [hb2.cell (by simp)]; go_simp
              have hs2 : wr.heap.size + 1 ≤ w2.heap.size := by have := hb2.size; simpa using this
              clear hb2 q0 q1 v0 v1 y2
              cases hop : openAt (ws.getD z (0, 0)) now
              · go_wp2_with fail
                go_roundg (rs.length - (t + 1))
                case measure => have := HG.out.2.2.1; omega
                case rel =>
                  obtain ⟨g1, g2, g3, g4, g5, g6⟩ := HG.out
                  refine ⟨t + 1, by omega, by go_num, rfl, ?_, g2.trans (HB2.out.mono g2.size)⟩
                  rw [g4, step_no (g6.trans hop)]
                  exact g1.later HB2.out
              · go_wp2_with fail
                refine (indexOf_calls w2 ta tc S1 ((z : Int), q2) (HG.out.2.2.2.2.1.later HB2.out) (by omega)).mono ?_
                rintro e w3 ⟨rfl, hb3⟩
                have HB3 : Hid (Below wr.heap.size wr w3) := HB2.out.trans (hb3.mono (by omega))
                have u0 : w3.cell? ⟨wr.heap.size, 0, none⟩ = some (.int .i64 z) := cell_later hb3 s0
                have u1 : w3.cell? ⟨wr.heap.size, 1, none⟩ = some (.int .i64 q2) := cell_later hb3 s1
                have hs3 : wr.heap.size + 1 ≤ w3.heap.size := Nat.le_trans hs2 hb3.size
                clear hb3 s0 s1
                by_cases hm : ((z : Int), q2) ∈ S1
                · rw [idx, if_pos hm]
                  obtain ⟨ix, hix⟩ : ∃ ix, ix = S1.idxOf ((z : Int), q2) := ⟨_, rfl⟩
                  rw [← hix]
                  have HM : Hid (((z : Int), q2) ∈ S1) := hm
                  clear hm hix
                  go_wp2_with fail
                  go_roundg (rs.length - (t + 1))
                  case measure => have := HG.out.2.2.1; omega
                  case rel =>
                    obtain ⟨g1, g2, g3, g4, g5, g6⟩ := HG.out
                    refine ⟨t + 1, by omega, by go_num, rfl, ?_, g2.trans (HB3.out.mono g2.size)⟩
                    rw [g4, step_old HM.out]
                    exact g1.later HB3.out
                · rw [idx, if_neg hm]
                  have HM : Hid (((z : Int), q2) ∉ S1) := hm
                  clear hm
                  have HO : Hid ((w3.alloc (.cells #[.int .i64 z, .int .i64 q2] 60)).ownsRow w.heap.size 60 2 (.slice ta S1.length tc) S1.length (rcells S1)) := (HG.out.1.later HB3.out).alloc _
                  go_wp2_with (at_builtin; refine wpList_append_lies _ rfl _ _ 55 rfl w.heap.size 60 i0 (.agg #[.int .i64 0, .int .i64 0]) 2 16 Try.underlying55 hi hz0 hz1 hz2 rfl (by omega) _ _ _ rfl HO.out ⟨w3.heap.size, 0, none⟩ 1 1 [.int .i64 z, .int .i64 q2] rfl rfl (two_new _ _ _ _) (by simp [Value.oneCell']) (by omega) (by unfold maxLen; omega) (by omega) (by simp; omega) (w3.heap.size + 1) (by simp) ?_; intro g5 cap5 w5 hown5 hgrow5 hat5 hlt5)
                  go_roundg (rs.length - (t + 1))
                  case measure => have := HG.out.2.2.1; omega
                  case rel =>
                    obtain ⟨g1, g2, g3, g4, g5, g6⟩ := HG.out
                    refine ⟨t + 1, by omega, by go_num, rfl, ?_, ?_⟩
                    · rw [g4, step_new (g6.trans hop) HM.out]
                      exact Own.push hown5
                    · have hB1 : Below w.heap.size w (w3.alloc (.cells #[.int .i64 z, .int .i64 q2] 60)) := (g2.trans (HB3.out.mono g2.size)).alloc (by omega) _
                      exact hB1.grown hgrow5 (by simp; omega) (fun k hk => g1.block_ge hk)
          · have HG : Hid (Own wr w.heap.size 60 (.slice ta (gather (okW ws now) S0 (rs.take t)).length tc) (gather (okW ws now) S0 (rs.take t)) ∧ Below w.heap.size w wr) := ⟨hown, hbel⟩
            have hti : ¬ (t : Int) < rs.length := by omega
            clear hown hbel hgt hrf
            go_wp2_with fail
            go_roundg (ls.length - (k + 1))
            case measure => have := HC.out.2.2.1; omega
            case rel =>
              refine ⟨k + 1, by omega, by go_num, rfl, ?_, HG.out.2⟩
              rw [flat_next hlt, gather_append, ← HE.out.2, ← HE.out.1]
              have h1 := HG.out.1
              rw [List.take_of_length_le (by omega)] at h1 ⊢
              exact h1
    · have ek : k = ls.length := by omega
      subst ek
      rw [List.take_length] at hown ⊢
      obtain ⟨G0, hG0⟩ : ∃ G0, G0 = gather (okW ws now) [] (ls.flatMap (·.2.2)) := ⟨_, rfl⟩
      rw [← hG0] at hown ⊢
      have HG0 : Hid (G0.length ≤ 100000 ∧ Own wr w.heap.size 60 (.slice sa G0.length sc) G0 ∧ Below w.heap.size w wr) := ⟨by
        have h1 := gather_le (ok := okW ws now) (ls.flatMap (·.2.2)) []
        rw [← hG0] at h1
        have h2 := HR.out.2.2.1
        rw [List.length_nil] at h1
        omega, hown, hbel⟩
      have HGE : Hid (G0 = gather (okW ws now) [] (ls.flatMap (·.2.2))) := hG0
      clear hG0 hown hbel hgk
      go_wp2_with fail
      obtain ⟨wv, hwv⟩ : ∃ wv, wv = wr := ⟨_, rfl⟩
      obtain ⟨gv, hgv⟩ : ∃ gv, gv = gk := ⟨_, rfl⟩
      subst hwv hgv
      go_loopg [9, 13] us.length (fun j v i wr => ∃ k : Nat, k ≤ us.length ∧ i = .int .i64 k ∧ j = us.length - k ∧ Own wr w.heap.size 60 v (gather (okW ws now) G0 ((us.take k).flatMap (·.2))) ∧ Below w.heap.size w wr)
      case atStart => exact ⟨0, Nat.zero_le _, rfl, rfl, HG0.out.2.1, HG0.out.2.2⟩
      case round =>
        obtain ⟨k, hk, rfl, hgk, hown, hbel⟩ := hrel
        obtain ⟨sa, sc, rfl, -⟩ := hown.refs
        by_cases hlt : k < us.length
        · rcases HI.out.2.2 with h0 | ⟨b, off, rfl, hc⟩
          · rw [h0] at hlt; simp at hlt
          · obtain ⟨_, ra, rc, x2, hrf⟩ := hc k hlt
            obtain ⟨rs, hrs⟩ : ∃ rs, rs = (us[k]).2 := ⟨_, rfl⟩
            rw [← hrs] at x2 hrf
            obtain ⟨S0, hS0⟩ : ∃ S0, S0 = gather (okW ws now) G0 ((us.take k).flatMap (·.2)) := ⟨_, rfl⟩
            rw [← hS0] at hown ⊢
            have hS0l : S0.length + rs.length ≤ 250000 := by
              have h1 := gather_le (ok := okW ws now) ((us.take k).flatMap (·.2)) G0
              have h2 := flat_le us (·.2) (k + 1)
              rw [flat_next hlt, List.length_append, ← hrs] at h2
              have h3 := HR.out.2.2
              rw [← hS0] at h1
              have h4 := HG0.out.1
              omega
            have HE : Hid (rs = (us[k]).2 ∧ S0 = gather (okW ws now) G0 ((us.take k).flatMap (·.2))) := ⟨hrs, hS0⟩
            have HX : Hid (∀ w', Below w.heap.size w w' → w'.cell? ⟨b, off + k * 2 + 1, none⟩ = some (.slice ra rs.length rc)) := fun w' hb => cell_later hb x2
            have HC : Hid (Own wr w.heap.size 60 (.slice sa S0.length sc) S0 ∧ Below w.heap.size w wr ∧ gk = us.length - k ∧ RefsIn w ra rs) := ⟨hown, hbel, hgk, hrf⟩
            have hki : (k : Int) < us.length := by omega
            clear hrs hS0 x2 hown hbel hgk hrf hc
            go_wp2_with fail
            obtain ⟨wy, hwy⟩ : ∃ wy, wy = wr := ⟨_, rfl⟩
            obtain ⟨gy, hgy⟩ : ∃ gy, gy = gk := ⟨_, rfl⟩
            subst hwy hgy
            go_loopg [9, 14] rs.length (fun j v i wr => ∃ t : Nat, t ≤ rs.length ∧ i = .int .i64 t ∧ j = rs.length - t ∧ Own wr w.heap.size 60 v (gather (okW ws now) S0 (rs.take t)) ∧ Below w.heap.size w wr)
            case atStart => exact ⟨0, Nat.zero_le _, rfl, rfl, HC.out.1, HC.out.2.1⟩
            case round =>
              obtain ⟨t, ht, rfl, hgt, hown, hbel⟩ := hrel
              obtain ⟨ta, tc, rfl, hrf⟩ := hown.refs
              have y2 := HX.out wr hbel
              by_cases htl : t < rs.length
              · obtain ⟨q, hq⟩ : ∃ q, q = rs[t] := ⟨_, rfl⟩
                have hqr : inN ws.length q = true := by
                  have h1 := HR.out.2.1 _ (List.getElem_mem hlt)
                  rw [← HE.out.1] at h1
                  rw [hq]
                  exact List.all_eq_true.1 h1 _ (List.getElem_mem htl)
                simp [inN] at hqr
                obtain ⟨z, hz⟩ : ∃ z : Nat, q.1 = z := ⟨q.1.toNat, by omega⟩
                rcases HC.out.2.2.2 with h0 | ⟨rb, ro, rfl, hcr⟩
                · rw [h0] at htl; simp at htl
                · obtain ⟨p0, p1⟩ := hcr t htl
                  have q0 := cell_later hbel p0
                  have q1 := cell_later hbel p1
                  rw [← hq] at q0 q1
                  rw [hz] at q0
                  obtain ⟨wb, wo, rfl, v0, v1⟩ := (HI.out.1.later hbel).at z (by omega)
                  obtain ⟨S1, hS1⟩ : ∃ S1, S1 = gather (okW ws now) S0 (rs.take t) := ⟨_, rfl⟩
                  have hS1l : S1.length ≤ 300000 := by
                    have h1 := gather_le (ok := okW ws now) (rs.take t) S0
                    rw [← hS1] at h1
                    simp at h1
                    omega
                  rw [← hS1] at hown hrf ⊢
                  have hok : okW ws now q = openAt (ws.getD z (0, 0)) now := by unfold okW; rw [hz]; rfl
                  have hqz : q = ((z : Int), q.2) := Prod.ext hz rfl
                  have HG : Hid (Own wr w.heap.size 60 (.slice ta S1.length tc) S1 ∧ Below w.heap.size w wr ∧ gk = rs.length - t ∧ gather (okW ws now) S0 (rs.take (t + 1)) = step (okW ws now) S1 ((z : Int), q.2) ∧ RefsIn wr ta S1 ∧ okW ws now ((z : Int), q.2) = openAt (ws.getD z (0, 0)) now) := ⟨hown, hbel, hgt, by rw [gather_next htl, ← hS1, ← hq, ← hqz], hrf, by rw [← hqz]; exact hok⟩
                  obtain ⟨q2, hq2⟩ : ∃ q2, q2 = q.2 := ⟨_, rfl⟩
                  rw [← hq2] at HG q1
                  have hwsz : w.heap.size ≤ wr.heap.size := hbel.size
                  have hti : (t : Int) < rs.length := by omega
                  have hzi : (z : Int) < ws.length := by omega
                  have lr := World.block_lt_of_cell? wr ⟨rb, ro + t * 2, none⟩ q0
                  have lw := World.block_lt_of_cell? wr ⟨wb, wo + z * 2, none⟩ v0
                  have lb := World.block_lt_of_cell? wr ⟨b, off + k * 2 + 1, none⟩ y2
                  simp only at lr lw lb
                  clear hown hbel hgt hS1 hq hrf hok p0 p1 hcr hqr hz hqz hq2
                  go_wp2_with fail
                  refine (validAt_calls _ (ws.getD z (0, 0)) now).mono ?_
                  rintro e w2 ⟨rfl, hb2⟩
                  have HB2 : Hid (Below wr.heap.size wr w2) := ((Below.refl _ _).alloc (Nat.le_refl _) _).trans (hb2.mono (by simp))
                  have s0 : w2.cell? ⟨wr.heap.size, 0, none⟩ = some (.int .i64 z) := by rw [hb2.cell (by simp)]; go_simp
                  have s1 : w2.cell? ⟨wr.heap.size, 1, none⟩ = some (.int .i64 q2) := by rw [hb2.cell (by simp)]; go_simp
                  have hs2 : wr.heap.size + 1 ≤ w2.heap.size := by have := hb2.size; simpa using this
                  clear hb2 q0 q1 v0 v1 y2
                  cases hop : openAt (ws.getD z (0, 0)) now
                  · go_wp2_with fail
                    go_roundg (rs.length - (t + 1))
                    case measure => have := HG.out.2.2.1; omega
                    case rel =>
                      obtain ⟨g1, g2, g3, g4, g5, g6⟩ := HG.out
                      refine ⟨t + 1, by omega, by go_num, rfl, ?_, g2.trans (HB2.out.mono g2.size)⟩
                      rw [g4, step_no (g6.trans hop)]
                      exact g1.later HB2.out
                  · go_wp2_with fail
                    refine (indexOf_calls w2 ta tc S1 ((z : Int), q2) (HG.out.2.2.2.2.1.later HB2.out) (by omega)).mono ?_
                    rintro e w3 ⟨rfl, hb3⟩
                    have HB3 : Hid (Below wr.heap.size wr w3) := HB2.out.trans (hb3.mono (by omega))
                    have u0 : w3.cell? ⟨wr.heap.size, 0, none⟩ = some (.int .i64 z) := cell_later hb3 s0
                    have u1 : w3.cell? ⟨wr.heap.size, 1, none⟩ = some (.int .i64 q2) := cell_later hb3 s1
                    have hs3 : wr.heap.size + 1 ≤ w3.heap.size := Nat.le_trans hs2 hb3.size
                    clear hb3 s0 s1
                    by_cases hm : ((z : Int), q2) ∈ S1
                    · rw [idx, if_pos hm]
                      obtain ⟨ix, hix⟩ : ∃ ix, ix = S1.idxOf ((z : Int), q2) := ⟨_, rfl⟩
                      rw [← hix]
                      have HM : Hid (((z : Int), q2) ∈ S1) := hm
                      clear hm hix
                      go_wp2_with fail
                      go_roundg (rs.length - (t + 1))
                      case measure => have := HG.out.2.2.1; omega
                      case rel =>
                        obtain ⟨g1, g2, g3, g4, g5, g6⟩ := HG.out
                        refine ⟨t + 1, by omega, by go_num, rfl, ?_, g2.trans (HB3.out.mono g2.size)⟩
                        rw [g4, step_old HM.out]
                        exact g1.later HB3.out
                    · rw [idx, if_neg hm]
                      have HM : Hid (((z : Int), q2) ∉ S1) := hm
                      clear hm
                      have HO : Hid ((w3.alloc (.cells #[.int .i64 z, .int .i64 q2] 60)).ownsRow w.heap.size 60 2 (.slice ta S1.length tc) S1.length (rcells S1)) := (HG.out.1.later HB3.out).alloc _
                      go_wp2_with (at_builtin; refine wpList_append_lies _ rfl _ _ 55 rfl w.heap.size 60 i0 (.agg #[.int .i64 0, .int .i64 0]) 2 16 Try.underlying55 hi hz0 hz1 hz2 rfl (by omega) _ _ _ rfl HO.out ⟨w3.heap.size, 0, none⟩ 1 1 [.int .i64 z, .int .i64 q2] rfl rfl (two_new _ _ _ _) (by simp [Value.oneCell']) (by omega) (by unfold maxLen; omega) (by omega) (by simp; omega) (w3.heap.size + 1) (by simp) ?_; intro g5 cap5 w5 hown5 hgrow5 hat5 hlt5)
                      go_roundg (rs.length - (t + 1))
                      case measure => have := HG.out.2.2.1; omega
                      case rel =>
                        obtain ⟨g1, g2, g3, g4, g5, g6⟩ := HG.out
                        refine ⟨t + 1, by omega, by go_num, rfl, ?_, ?_⟩
                        · rw [g4, step_new (g6.trans hop) HM.out]
                          exact Own.push hown5
                        · have hB1 : Below w.heap.size w (w3.alloc (.cells #[.int .i64 z, .int .i64 q2] 60)) := (g2.trans (HB3.out.mono g2.size)).alloc (by omega) _
                          exact hB1.grown hgrow5 (by simp; omega) (fun k hk => g1.block_ge hk)
              · have HG : Hid (Own wr w.heap.size 60 (.slice ta (gather (okW ws now) S0 (rs.take t)).length tc) (gather (okW ws now) S0 (rs.take t)) ∧ Below w.heap.size w wr) := ⟨hown, hbel⟩
                have hti : ¬ (t : Int) < rs.length := by omega
                clear hown hbel hgt hrf
                go_wp2_with fail
                go_roundg (us.length - (k + 1))
                case measure => have := HC.out.2.2.1; omega
                case rel =>
                  refine ⟨k + 1, by omega, by go_num, rfl, ?_, HG.out.2⟩
                  rw [flat_next hlt, gather_append, ← HE.out.2, ← HE.out.1]
                  have h1 := HG.out.1
                  rw [List.take_of_length_le (by omega)] at h1 ⊢
                  exact h1
        · have ek : k = us.length := by omega
          subst ek
          rw [List.take_length] at hown ⊢
          have HQ : Hid (Below w.heap.size w wr) := hbel
          clear hown hbel hgk
          go_wp2
          go_ret
          refine ⟨?_, HQ.out⟩
          rw [gather_append, ← HGE.out]
          rfl
end Go.Proofs.Qxb6612720a
