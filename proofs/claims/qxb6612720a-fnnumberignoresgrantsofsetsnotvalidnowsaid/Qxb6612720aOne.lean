import Derived.Test.Qxb6612720aNst
import Derived.Test.Qxb6612720aFits
import Derived.Deep.RegionLaw
namespace Go.Proofs.Qxb6612720a
open Go.RowKit
set_option maxRecDepth 100000

theorem turned_block {w w' : World} {mb k : Nat} {cs : Array Value} {t : TypeId} (h : w.mapTurned w' mb) (hk : w.heap[k]? = some (.cells cs t (0, 0))) : w'.heap[k]? = some (.cells cs t (0, 0)) := by
  refine (map_other h (lt_of_heap hk) (fun e => ?_)).trans hk
  obtain ⟨es, clock, es', clock', hb, _⟩ := h
  rw [← e, hk] at hb
  cases hb
theorem turned_cell {w w' : World} {mb b o : Nat} {v : Value} (h : w.mapTurned w' mb) (hc : w.cell? ⟨b, o, none⟩ = some v) : w'.cell? ⟨b, o, none⟩ = some v := by
  have hne : b ≠ mb := fun e => by
    obtain ⟨es, clock, es', clock', hb, _⟩ := h
    subst e
    simp [World.cell?, hb] at hc
  have hlt := World.block_lt_of_cell? w ⟨b, o, none⟩ hc
  have e := map_other h hlt hne
  rw [← hc]
  simp only [World.cell?, e]
theorem Own.turned {w w' : World} {mb B : Nat} {t : TypeId} {v : Value} {rs : List (Int × Int)} (ho : Own w B t v rs) (h : w.mapTurned w' mb) : Own w' B t v rs := by
  refine ⟨ho.1, ?_⟩
  rcases ho.2 with h1 | ⟨g, cap, cur, h1, h2, h3, h4⟩
  · exact Or.inl h1
  · exact Or.inr ⟨g, cap, cur, h1, h2, turned_block h h3, h4⟩

set_option maxHeartbeats 4000000 in
theorem number1_calls (w : World) (E PE PN PW MB SB B N : Nat) (q p : Value) (ws : List (Int × Int)) (now : Int) (R rs : List (Int × Int)) (n cap : Nat)
    (h : NSt w E PE PN PW MB SB B q p ws now R n) (hr : CpR w N rs rs.length) (hN : N < B) (hE : E < B) (hB : B ≤ w.heap.size) (hin : rs.all (inN ws.length) = true) (hwf : ∀ r ∈ rs, wfI r.1 r.2) (hl : R.length + rs.length ≤ 300000) (hn : n + rs.length ≤ 1048576) :
    Calls Try.prog 33 #[.slice (some ⟨N, 0, none⟩) rs.length cap, .pointer (some ⟨PE, 0, none⟩), .pointer (some ⟨PN, 0, none⟩), .pointer (some ⟨PW, 0, none⟩)] w fun e w' => e = .returned (.tuple #[]) ∧ NSt w' E PE PN PW MB SB B q p ws now (gather (okW ws now) R rs) (n + rs.length) ∧ Kp B E MB w w' := by
  obtain ⟨i0, hi, hz0, hz1, hz2⟩ := info_parts info118
  obtain ⟨cE, hcE⟩ : ∃ cE, w.heap[E]? = some (.cells cE 102 (0, 0)) := by
    obtain ⟨rv, h1, _⟩ := h.e
    exact ⟨_, h1⟩
  have H0 : Hid (NSt w E PE PN PW MB SB B q p ws now R n ∧ CpR w N rs rs.length ∧ w.heap[E]? = some (.cells cE 102 (0, 0))) := ⟨h, hr, hcE⟩
  have HF : Hid ((∀ r ∈ rs, wfI r.1 r.2) ∧ rs.all (inN ws.length) = true) := ⟨hwf, hin⟩
  have hMB := h.mb
  clear h hr hin hwf hcE
  go_enter Try.func33, Try.ntmps33
  go_wp2_with fail
  go_loopg [12] rs.length (fun j i wr => ∃ t : Nat, t ≤ rs.length ∧ i = .int .i64 t ∧ j = rs.length - t ∧ NSt wr E PE PN PW MB SB B q p ws now (gather (okW ws now) R (rs.take t)) (n + t) ∧ Kp B E MB w wr)
  case atStart => exact ⟨0, Nat.zero_le _, rfl, rfl, H0.out.1, Kp.refl _ _ _ _⟩
  case round =>
    obtain ⟨t, ht, rfl, hgk, hst, hkp⟩ := hrel
    by_cases htl : t < rs.length
    · have hcp : CpR wr N rs rs.length := H0.out.2.1.kp hkp hN hMB H0.out.2.2
      obtain ⟨x, hx⟩ : ∃ x, x = rs[t] := ⟨_, rfl⟩
      have hxi : inN ws.length x = true := by
        rw [hx]
        exact List.all_eq_true.1 HF.out.2 _ (List.getElem_mem htl)
      have hxw : wfI x.1 x.2 := by rw [hx]; exact HF.out.1 _ (List.getElem_mem htl)
      simp [inN] at hxi
      obtain ⟨z, hz⟩ : ∃ z : Nat, x.1 = z := ⟨x.1.toNat, by omega⟩
      obtain ⟨q2, hq2⟩ : ∃ q2, q2 = x.2 := ⟨_, rfl⟩
      have hxz : x = ((z : Int), q2) := Prod.ext hz hq2.symm
      obtain ⟨S, hS⟩ : ∃ S, S = gather (okW ws now) R (rs.take t) := ⟨_, rfl⟩
      have hSl : S.length ≤ 300000 := by
        have h1 := gather_le (ok := okW ws now) (rs.take t) R
        rw [← hS] at h1
        simp at h1
        omega
      rw [← hS] at hst
      obtain ⟨⟨rv, e1, e2⟩, e3, e4, e5, e6, e7, e8, e9, e10⟩ := hst
      obtain ⟨ra, rc, rfl, -⟩ := e2.refs
      obtain ⟨cc, k1, k2, k3⟩ := hcp
      obtain ⟨k4, k5⟩ := k3 t htl htl
      rw [← hx] at k4 k5
      rw [hz] at k4
      rw [← hq2] at k5
      have c0 := cell_of_block k1 k4
      have c1 := cell_of_block k1 k5
      have cpe : wr.cell? ⟨PE, 0, none⟩ = some (.pointer (some ⟨E, 0, none⟩)) := cell_of_block e3 rfl
      have cpn : wr.cell? ⟨PN, 0, none⟩ = some (.map (some MB)) := cell_of_block e4 rfl
      have cpw : wr.cell? ⟨PW, 0, none⟩ = some (.int .i64 now) := cell_of_block e5 rfl
      have cE1 : wr.cell? ⟨E, 1, none⟩ = some (.slice (some ⟨SB, 0, none⟩) ws.length ws.length) := cell_of_block e1 rfl
      have cE2 : wr.cell? ⟨E, 2, none⟩ = some (.slice ra S.length rc) := cell_of_block e1 rfl
      obtain ⟨cs, g1, g2⟩ := e6
      obtain ⟨g3, g4⟩ := g2 z (by omega)
      have s0 := cell_of_block g1 g3
      have s1 := cell_of_block g1 g4
      obtain ⟨nb, hnb⟩ : ∃ nb, nb = (ws.getD z (0, 0)).1 := ⟨_, rfl⟩
      obtain ⟨na, hna⟩ : ∃ na, na = (ws.getD z (0, 0)).2 := ⟨_, rfl⟩
      rw [← hnb] at s0
      rw [← hna] at s1
      have lN := lt_of_heap k1
      have lPE := lt_of_heap e3
      have lPN := lt_of_heap e4
      have lPW := lt_of_heap e5
      have lE := lt_of_heap e1
      have lS := lt_of_heap g1
      have hok : okW ws now ((z : Int), q2) = (decide (nb ≤ now) && decide (now < na)) := by rw [hnb, hna]; rfl
      have HG : Hid (NSt wr E PE PN PW MB SB B q p ws now S (n + t) ∧ Kp B E MB w wr ∧ gk = rs.length - t ∧ gather (okW ws now) R (rs.take (t + 1)) = step (okW ws now) S ((z : Int), q2) ∧ okW ws now ((z : Int), q2) = (decide (nb ≤ now) && decide (now < na)) ∧ wfI (z : Int) q2 ∧ wr.heap[E]? = some (.cells #[q, .slice (some ⟨SB, 0, none⟩) ws.length ws.length, .slice ra S.length rc, p] 102 (0, 0)) ∧ Own wr B 118 (.slice ra S.length rc) S) :=
        ⟨⟨⟨_, e1, e2⟩, e3, e4, e5, ⟨cs, g1, g2⟩, e7, e8, e9, e10⟩, hkp, hgk, by rw [gather_next htl, ← hS, ← hx, ← hxz], hok, by rw [← hz, hq2]; exact hxw, e1, e2⟩
      have hti : (t : Int) < rs.length := by omega
      have hzi : (z : Int) < ws.length := by omega
      have hBr : B ≤ wr.heap.size := Nat.le_trans hB hkp.size
      clear e1 e2 e3 e4 e5 e7 e8 e9 e10 g1 g2 g3 g4 k1 k2 k3 k4 k5 hS hkp hgk hx hxi hxw hz hq2 hxz hnb hna hok
      go_wp2_with fail
      go_quiet (fail)
      obtain ⟨w2, hw2⟩ : ∃ w2, w2 = ((wr.alloc (.cells #[.int .i64 z, .int .i64 q2] 118)).drewN nq) := ⟨_, rfl⟩
      rw [← hw2]
      have hb2 : Below wr.heap.size wr w2 := by rw [hw2]; exact drewn ((Below.refl _ _).alloc (Nat.le_refl _) _) nq
      have r0 : w2.cell? ⟨wr.heap.size, 0, none⟩ = some (.int .i64 z) := by rw [hw2]; go_simp
      have r1 : w2.cell? ⟨wr.heap.size, 1, none⟩ = some (.int .i64 q2) := by rw [hw2]; go_simp
      have hs2 : w2.heap.size = wr.heap.size + 1 := by rw [hw2]; simp [World.drewN]
      have hB2 : Below wr.heap.size wr w2 := hb2
      replace cpe := cell_later hb2 cpe
      replace cpn := cell_later hb2 cpn
      replace cpw := cell_later hb2 cpw
      replace cE2 := cell_later hb2 cE2
      replace s0 := cell_later hb2 s0
      replace s1 := cell_later hb2 s1
      have hst2 := HG.out.1.later hb2
      obtain ⟨v, hlook, -⟩ := hst2.num.look (x := ((z : Int), q2)) HG.out.2.2.2.2.2.1 hst2.wf hst2.nd
      simp only [kvI] at hlook
      have H2 : Hid (Below wr.heap.size wr w2 ∧ NSt w2 E PE PN PW MB SB B q p ws now S (n + t)) := ⟨hb2, hst2⟩
      clear hw2 hb2 hB2 hst2 cE1 c0 c1
      by_cases hm : ((z : Int), q2) ∈ S
      · rw [decide_eq_true hm] at hlook
        have HM : Hid (((z : Int), q2) ∈ S) := hm
        clear hm
        go_wp2_with fail
        go_quiet (fail)
        go_wp2
        go_roundg (rs.length - (t + 1))
        case measure => have := HG.out.2.2.1; omega
        case rel =>
          obtain ⟨_, a2, _, a4, _⟩ := HG.out
          refine ⟨t + 1, by omega, by go_num, rfl, ?_, a2.trans (Kp.of_below (drewn H2.out.1 _))⟩
          rw [a4, step_old HM.out]
          exact (H2.out.2.later (drewn (Below.refl _ _) _)).mono (by omega)
      · rw [decide_eq_false hm] at hlook
        have HM : Hid (((z : Int), q2) ∉ S) := hm
        clear hm
        by_cases o1 : nb ≤ now
        · by_cases o2 : now < na
          · have hokt : okW ws now ((z : Int), q2) = true := by
              rw [HG.out.2.2.2.2.1]
              simp [o1, o2]
            have HOK : Hid (okW ws now ((z : Int), q2) = true) := hokt
            clear hokt
            go_wp2_with fail
            go_quiet (fail)
            obtain ⟨w3, hw3⟩ : ∃ w3, w3 = w2.drewN nq := ⟨_, rfl⟩
            rw [← hw3]
            have hb3 : Below w2.heap.size w2 w3 := by rw [hw3]; exact drewn (Below.refl _ _) _
            have hst3 := (H2.out.2.later hb3).later (Below.refl _ _).drew
            replace cpe := cell_later hb3 cpe
            replace cpn := cell_later hb3 cpn
            replace cE2 := cell_later hb3 cE2
            replace r0 := cell_later hb3 r0
            replace r1 := cell_later hb3 r1
            obtain ⟨w4, hput, hnum4, hturn⟩ := hst3.num.store (by unfold maxLen; omega) (x := ((z : Int), q2)) HG.out.2.2.2.2.2.1 hst3.wf HM.out
            simp only [kvI] at hput
            have hE3 : w3.heap[E]? = some (.cells #[q, .slice (some ⟨SB, 0, none⟩) ws.length ws.length, .slice ra S.length rc, p] 102 (0, 0)) := ((H2.out.1.trans (hb3.mono (by omega))).block _ lE).trans HG.out.2.2.2.2.2.2.1
            have hO3 : Own w3.drew B 118 (.slice ra S.length rc) S := (HG.out.2.2.2.2.2.2.2.later (H2.out.1.trans (hb3.mono (by omega)))).later (Below.refl _ _).drew
            have hO4 : Own w4 B 118 (.slice ra S.length rc) S := hO3.turned hturn
            have hs4 : w3.heap.size ≤ w4.heap.size := hturn.grown.size
            have hE4 : w4.heap[E]? = some (.cells #[q, .slice (some ⟨SB, 0, none⟩) ws.length ws.length, .slice ra S.length rc, p] 102 (0, 0)) := turned_block hturn hE3
            have dpe : w4.cell? ⟨PE, 0, none⟩ = some (.pointer (some ⟨E, 0, none⟩)) := turned_cell hturn cpe
            have d0 : w4.cell? ⟨wr.heap.size, 0, none⟩ = some (.int .i64 z) := turned_cell hturn r0
            have d1 : w4.cell? ⟨wr.heap.size, 1, none⟩ = some (.int .i64 q2) := turned_cell hturn r1
            have dE2 : w4.cell? ⟨E, 2, none⟩ = some (.slice ra S.length rc) := turned_cell hturn cE2
            have fE : w4.frozen? ⟨E, 2, none⟩ = false := free_of_block hE4
            have hs3 : w2.heap.size ≤ w3.heap.size := hb3.size
            have hPE4 : w4.heap[PE]? = some (.cells #[.pointer (some ⟨E, 0, none⟩)] 96 (0, 0)) := turned_block hturn hst3.pe
            have hob : ∀ k, (Value.slice ra S.length rc).ownBlock = some k → k < wr.heap.size ∧ ∃ cs, w4.heap[k]? = some (.cells cs 118 (0, 0)) := by
              intro k hk
              rcases HG.out.2.2.2.2.2.2.2.2 with ⟨x1, _⟩ | ⟨g0, cap0, cur, x1, x2, x3, _⟩
              · rw [x1] at hk; cases hk
              · rw [x1] at hk
                cases hk
                exact ⟨lt_of_heap x3, cur, turned_block hturn (((H2.out.1.trans (hb3.mono (by omega))).block _ (lt_of_heap x3)).trans x3)⟩
            have hPEE : PE ≠ E := apart hPE4 hE4 (by decide)
            have mPE : PE < w4.heap.size := by omega
            have mE : E < w4.heap.size := by omega
            have mL : wr.heap.size < w4.heap.size := by omega
            have HK : Hid (∀ wy, (w4.drew.alloc (.cells #[.int .i64 z, .int .i64 q2] 118)).grownBy wy (Value.slice ra S.length rc).ownBlock → wy.cell? ⟨PE, 0, none⟩ = some (.pointer (some ⟨E, 0, none⟩)) ∧ wy.cell? ⟨E, 2, none⟩ = some (.slice ra S.length rc) ∧ wy.cell? ⟨wr.heap.size, 0, none⟩ = some (.int .i64 z) ∧ wy.cell? ⟨wr.heap.size, 1, none⟩ = some (.int .i64 q2) ∧ wy.frozen? ⟨E, 2, none⟩ = false) := by
              intro wy hg
              have ckeep : ∀ k o v, w4.cell? ⟨k, o, none⟩ = some v → (Value.slice ra S.length rc).ownBlock ≠ some k → wy.cell? ⟨k, o, none⟩ = some v := by
                intro k o v hk hne
                have hlt := World.block_lt_of_cell? w4 ⟨k, o, none⟩ hk
                have e : wy.heap[k]? = w4.heap[k]? := by
                  rw [hg.block k (by simp; exact Nat.lt_succ_of_lt hlt) (fun e => hne e.symm), Below.heap_alloc w4.drew _ k hlt]
                  rfl
                rw [← hk]
                simp only [World.cell?, e]
              have n1 : (Value.slice ra S.length rc).ownBlock ≠ some PE := fun e => by
                obtain ⟨_, cs', e2⟩ := hob PE e
                rw [hPE4] at e2
                cases e2
              have n2 : (Value.slice ra S.length rc).ownBlock ≠ some E := fun e => by
                obtain ⟨_, cs', e2⟩ := hob E e
                rw [hE4] at e2
                cases e2
              have n3 : (Value.slice ra S.length rc).ownBlock ≠ some wr.heap.size := fun e => by
                have := (hob _ e).1
                omega
              refine ⟨ckeep _ _ _ dpe n1, ckeep _ _ _ dE2 n2, ckeep _ _ _ d0 n3, ckeep _ _ _ d1 n3, ?_⟩
              refine free_of_block (t := 102) (c := #[q, .slice (some ⟨SB, 0, none⟩) ws.length ws.length, .slice ra S.length rc, p]) ?_
              rw [hg.block E (by simp; omega) (fun e => n2 e.symm), Below.heap_alloc w4.drew _ E mE]
              exact hE4
            have hba : Below w4.heap.size w4 ((w4.alloc (Obj.cells #[.int .i64 z, .int .i64 q2] 118)).drew) := ((Below.refl _ _).alloc (Nat.le_refl _) _).drew
            have HKA : Hid (((w4.alloc (Obj.cells #[.int .i64 z, .int .i64 q2] 118)).drew).cell? ⟨PE, 0, none⟩ = some (.pointer (some ⟨E, 0, none⟩)) ∧ ((w4.alloc (Obj.cells #[.int .i64 z, .int .i64 q2] 118)).drew).cell? ⟨wr.heap.size, 0, none⟩ = some (.int .i64 z) ∧ ((w4.alloc (Obj.cells #[.int .i64 z, .int .i64 q2] 118)).drew).cell? ⟨wr.heap.size, 1, none⟩ = some (.int .i64 q2) ∧ ((w4.alloc (Obj.cells #[.int .i64 z, .int .i64 q2] 118)).drew).frozen? ⟨E, 2, none⟩ = false) := ⟨cell_later hba dpe, cell_later hba d0, cell_later hba d1, (hba.frozen (p := ⟨E, 2, none⟩) mE).trans fE⟩
            have HK2 : Hid (∀ wy, (w4.drew.alloc (.cells #[.int .i64 z, .int .i64 q2] 118)).grownBy wy (Value.slice ra S.length rc).ownBlock → wy.cell? ⟨PE, 0, none⟩ = some (.pointer (some ⟨E, 0, none⟩)) ∧ wy.cell? ⟨wr.heap.size, 0, none⟩ = some (.int .i64 z) ∧ wy.cell? ⟨wr.heap.size, 1, none⟩ = some (.int .i64 q2) ∧ wy.frozen? ⟨E, 2, none⟩ = false) := fun wy hg => ⟨(HK.out wy hg).1, (HK.out wy hg).2.2⟩
            have HK3 : Hid (∀ wy u, (w4.drew.alloc (.cells #[.int .i64 z, .int .i64 q2] 118)).grownBy wy (Value.slice ra S.length rc).ownBlock → (wy.setCell ⟨E, 2, none⟩ u).cell? ⟨PE, 0, none⟩ = some (.pointer (some ⟨E, 0, none⟩)) ∧ (wy.setCell ⟨E, 2, none⟩ u).cell? ⟨wr.heap.size, 0, none⟩ = some (.int .i64 z) ∧ (wy.setCell ⟨E, 2, none⟩ u).cell? ⟨wr.heap.size, 1, none⟩ = some (.int .i64 q2) ∧ (wy.setCell ⟨E, 2, none⟩ u).frozen? ⟨E, 2, none⟩ = false) := by
              intro wy u hg
              obtain ⟨y1, y2, y3, y4⟩ := HK2.out wy hg
              have sc : ∀ k o v, wy.cell? ⟨k, o, none⟩ = some v → k ≠ E → (wy.setCell ⟨E, 2, none⟩ u).cell? ⟨k, o, none⟩ = some v := by
                intro k o v hk hne
                rw [← hk]
                simp only [World.cell?, Below.heap_setCell wy ⟨E, 2, none⟩ u k hne]
              exact ⟨sc _ _ _ y1 hPEE, sc _ _ _ y2 (by omega), sc _ _ _ y3 (by omega), by simpa using y4⟩
            clear hob hPE4
            clear hba
            have HO : Hid ((w4.drew.alloc (.cells #[.int .i64 z, .int .i64 q2] 118)).ownsRow B 118 2 (.slice ra S.length rc) S.length (rcells S)) := (hO4.later (Below.refl _ _).drew).alloc _
            have HT : Hid (NumIn w4 MB (n + t + 1) (S ++ [((z : Int), q2)]) ∧ w3.drew.mapTurned w4 MB ∧ NSt w3.drew E PE PN PW MB SB B q p ws now S (n + t) ∧ Below w2.heap.size w2 w3 ∧ Own w3.drew B 118 (.slice ra S.length rc) S ∧ w3.heap[E]? = some (.cells #[q, .slice (some ⟨SB, 0, none⟩) ws.length ws.length, .slice ra S.length rc, p] 102 (0, 0))) := ⟨hnum4, hturn, hst3, hb3, hO3, hE3⟩
            clear hnum4 hturn hst3 hb3 hO3 hO4 hE3 hE4 hw3
            go_wp2_with fail
            go_region
            go_wp2_with fail
            go_region_law
              ((refine step_append_lies _ (by rfl) (.tmp 58) (.tmp 60) 99 (by rfl) B 118 i0 (.agg #[.int .i64 0, .int .i64 0]) 2 16 Try.underlying99 hi hz0 hz1 hz2 rfl (by omega) (.slice ra S.length rc) S.length (rcells S) (by rfl) HO.out ⟨w4.heap.size, 0, none⟩ 1 1 [.int .i64 z, .int .i64 q2] (by rfl) (by rfl) (two_new _ _ _ _) (by simp [Value.oneCell']) (by omega) (by unfold maxLen; omega) (by omega) (by simp; omega) (w4.heap.size + 1) (by simp) ?_; intro g5 cap5 w5 hown5 hgrow5 hat5 hlt5; have cPE5 := (HK.out _ hgrow5).1; have cE5 := (HK.out _ hgrow5).2.1; have fE5 := (HK.out _ hgrow5).2.2.2.2))
            all_goals
              go_wp2_with fail
              go_roundg (rs.length - (t + 1))
              case measure => have := HG.out.2.2.1; omega
              case rel =>
                obtain ⟨_, a2, _, a4, a5, a6, _, _⟩ := HG.out
                obtain ⟨t1, t2, t3, t4, t5, t6⟩ := HT.out
                obtain ⟨f1, f2⟩ := t3.push hE a6 HM.out t6 t5 t1 t2 hown5 hgrow5
                refine ⟨t + 1, by omega, by go_num, rfl, ?_, ((a2.trans (Kp.of_below H2.out.1)).trans ((Kp.of_below t4).trans (Kp.of_below (Below.refl _ _).drew))).trans f2⟩
                rw [a4, step_new HOK.out HM.out]
                exact f1
          · have HOK : Hid (okW ws now ((z : Int), q2) = false) := by
              show okW ws now ((z : Int), q2) = false
              rw [HG.out.2.2.2.2.1]
              simp [o2]
            have od : decide (now < na) = false := decide_eq_false o2
            go_wp2_with fail
            go_quiet (fail)
            go_wp2
            go_roundg (rs.length - (t + 1))
            case measure => have := HG.out.2.2.1; omega
            case rel =>
              obtain ⟨_, a2, _, a4, _⟩ := HG.out
              refine ⟨t + 1, by omega, by go_num, rfl, ?_, a2.trans (Kp.of_below (drewn H2.out.1 _))⟩
              rw [a4, step_no HOK.out]
              exact (H2.out.2.later (drewn (Below.refl _ _) _)).mono (by omega)
        · have HOK : Hid (okW ws now ((z : Int), q2) = false) := by
            show okW ws now ((z : Int), q2) = false
            rw [HG.out.2.2.2.2.1]
            simp [o1]
          have od : decide (nb ≤ now) = false := decide_eq_false o1
          go_wp2_with fail
          go_quiet (fail)
          go_wp2
          go_roundg (rs.length - (t + 1))
          case measure => have := HG.out.2.2.1; omega
          case rel =>
            obtain ⟨_, a2, _, a4, _⟩ := HG.out
            refine ⟨t + 1, by omega, by go_num, rfl, ?_, a2.trans (Kp.of_below (drewn H2.out.1 _))⟩
            rw [a4, step_no HOK.out]
            exact (H2.out.2.later (drewn (Below.refl _ _) _)).mono (by omega)
    · have HG : Hid (NSt wr E PE PN PW MB SB B q p ws now (gather (okW ws now) R (rs.take t)) (n + t) ∧ Kp B E MB w wr) := ⟨hst, hkp⟩
      have et : t = rs.length := by omega
      clear hst hkp hgk
      go_wp2_with fail
      go_end0
      obtain ⟨a1, a2⟩ := HG.out
      rw [et, List.take_length] at a1
      exact ⟨rfl, a1, a2⟩
end Go.Proofs.Qxb6612720a
