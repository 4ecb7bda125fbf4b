import Derived.Test.Qxb6612720aPl2
import Derived.Deep.Slices
namespace Go.Proofs.Qxb6612720a
open Go.RowKit
set_option maxRecDepth 100000

theorem row_ge {w : World} {B : Nat} {t : TypeId} {s n : Nat} {v : Value} {xs : List Value} (h : w.ownsRow B t s v n xs) {k : Nat} (hk : v.ownBlock = some k) : B ≤ k := by
  rcases h.2 with ⟨h1, _⟩ | ⟨g, cap, cur, h1, h2, _⟩
  · rw [h1] at hk; cases hk
  · rw [h1] at hk
    cases hk
    exact h2
theorem row_made (w : World) (m : Nat) (hm : m ≤ maxLen) : (w.alloc (.cells (zrow (.agg #[.int .i64 0, .int .i64 0]) (m * 2)) 60)).ownsRow w.heap.size 60 2 (.slice (some ⟨w.heap.size, 0, none⟩) 0 m) 0 [] :=
  ⟨rfl, Or.inr ⟨w.heap.size, m, _, rfl, Nat.le_refl _, new_block0 _ _ _ rfl, Nat.zero_le _, hm, zrow_size _ _, by simp⟩⟩
theorem rcells_one (rs : List (Int × Int)) : ∀ u ∈ rcells rs, u.oneCell' = true := by
  intro u hu
  unfold rcells at hu
  obtain ⟨x, _, hx⟩ := List.mem_flatMap.1 hu
  simp at hx
  rcases hx with rfl | rfl <;> rfl
theorem refs_cells {w : World} {ad : Addr} {rs : List (Int × Int)} (h : RefsIn w (some ad) rs) : ∀ j u, (rcells rs)[j]? = some u → w.cell? (ad.add j) = some u := by
  intro j u hu
  rcases h with rfl | ⟨b, off, e, hc⟩
  · simp [rcells] at hu
  · cases e
    have hj : j < rs.length * 2 := by rw [← rcells_len]; exact (List.getElem?_eq_some_iff.1 hu).1
    have hj2 : j / 2 < rs.length := by omega
    obtain ⟨c1, c2⟩ := hc (j / 2) hj2
    obtain ⟨r1, r2⟩ := rcells_at rs (j / 2) hj2
    rw [WideShapes.add_plain]
    rcases Nat.mod_two_eq_zero_or_one j with e | e
    · have e2 : j / 2 * 2 = j := by omega
      rw [e2] at r1 c1
      rw [hu] at r1
      cases r1
      exact c1
    · have e2 : j / 2 * 2 + 1 = j := by omega
      rw [Nat.add_assoc, e2] at c2
      rw [e2] at r2
      rw [hu] at r2
      cases r2
      exact c2
theorem rcells_take (rs : List (Int × Int)) (p : Nat) : rcells (rs.take p) = (rcells rs).take (p * 2) := by
  induction rs generalizing p with
  | nil => simp [rcells]
  | cons a r ih =>
    cases p with
    | zero => simp [rcells]
    | succ p =>
      have e : (p + 1) * 2 = p * 2 + 1 + 1 := by omega
      rw [e]
      show _ :: _ :: rcells (r.take p) = _ :: _ :: (rcells r).take (p * 2)
      rw [ih]
theorem rcells_drop (rs : List (Int × Int)) (p : Nat) : rcells (rs.drop p) = (rcells rs).drop (p * 2) := by
  induction rs generalizing p with
  | nil => simp [rcells]
  | cons a r ih =>
    cases p with
    | zero => simp
    | succ p =>
      have e : (p + 1) * 2 = p * 2 + 1 + 1 := by omega
      rw [e]
      show rcells (r.drop p) = (rcells r).drop (p * 2)
      exact ih p
theorem news_take {w : World} {ad : Addr} {rs : List (Int × Int)} (h : RefsIn w (some ad) rs) (p : Nat) : ∀ j u, (rcells (rs.take p))[j]? = some u → w.cell? (ad.add j) = some u := by
  intro j u hu
  rw [rcells_take, List.getElem?_take] at hu
  split at hu
  · exact refs_cells h j u hu
  · cases hu
theorem news_drop {w : World} {ad : Addr} {rs : List (Int × Int)} (h : RefsIn w (some ad) rs) (p : Nat) : ∀ j u, (rcells (rs.drop p))[j]? = some u → w.cell? ((ad.add (p * 2)).add j) = some u := by
  intro j u hu
  rw [rcells_drop, List.getElem?_drop] at hu
  rw [Deep.add_add]
  exact refs_cells h _ u hu

/-- The list that is chosen. -/
structure Sel (w : World) (ls : List (ByteArray × ByteArray × List (Int × Int))) (us : List (ByteArray × List (Int × Int))) (k : Nat) (ra : Option Addr) (rc : Nat) (rs : List (Int × Int)) : Prop where
  refs : RefsIn w ra rs
  cap : rs.length ≤ rc
  nil : ra = none → rc = 0
  len : rs.length ≤ 65536
  which : (∃ h : k < ls.length, rs = (ls[k]).2.2) ∨ (ls.length ≤ k ∧ ∃ h : k - ls.length < us.length, rs = (us[k - ls.length]).2)
theorem CpU.other {w W : World} {N b j : Nat} {us : List (ByteArray × List (Int × Int))} {k : Nat} (h : CpU w W N us k) (hb : N ≠ b) (v : Value) : CpU (w.setCell ⟨b, j, none⟩ v) W N us k := by
  obtain ⟨c, h1, h2⟩ := h
  exact ⟨c, (Below.heap_setCell _ _ _ _ hb).trans h1, h2⟩
theorem put_own {w : World} {B : Nat} {v : Value} {rs : List (Int × Int)} {p : Nat} {ex : Int × Int} {z x2 : Int} (hx : ex = (z, x2)) (hp : p ≤ rs.length) {n : Nat} (h : w.ownsRow B 60 2 v (p + 1 + n) (rcells (rs.take p) ++ [.int .i64 z, .int .i64 x2] ++ rcells (rs.drop p))) (hn : n = rs.length - p := by rfl) : Own w B 60 v (putIn rs p ex) := by
  unfold Own
  have e1 : (putIn rs p ex).length = p + 1 + n := by rw [length_putIn hp, hn]; omega
  have e2 : rcells (putIn rs p ex) = rcells (rs.take p) ++ [.int .i64 z, .int .i64 x2] ++ rcells (rs.drop p) := by
    unfold putIn
    rw [rcells_append, rcells_append, hx, List.append_assoc]
    rfl
  rw [e1, e2]
  exact h
theorem below_row {B : Nat} {a w w' : World} {t : TypeId} {s n : Nat} {v : Value} {xs : List Value} (hb : Below B a w) (ho : w.ownsRow B t s v n xs) (hg : w.grownBy w' v.ownBlock) (hB : B ≤ w.heap.size) : Below B a w' := hb.grown hg hB (fun _ hk => row_ge ho hk)

set_option maxHeartbeats 8000000 in
theorem law_calls (w : World) (aS aL aU : Option Addr) (cS cL cU : Nat) (ws : List (Int × Int)) (ls : List (ByteArray × ByteArray × List (Int × Int))) (us : List (ByteArray × List (Int × Int))) (now which place : Int) (ex : Int × Int)
    (hS : WinIn w aS ws) (hL : ListedIn w aL ls) (hU : UnlistedIn w aU us) (h1 : ∀ k (h : k < ls.length), ∀ r ∈ (ls[k]).2.2, wfI r.1 r.2) (h2 : ∀ k (h : k < us.length), ∀ r ∈ (us[k]).2, wfI r.1 r.2) (hx : wfI ex.1 ex.2)
    (hcL : ∀ b off, aL = some ⟨b, off, none⟩ → ∀ i, i < ls.length → ∀ ra n c, w.cell? ⟨b, off + i * 3 + 2, none⟩ = some (.slice ra n c) → n ≤ c ∧ (ra = none → c = 0)) (hcU : ∀ b off, aU = some ⟨b, off, none⟩ → ∀ i, i < us.length → ∀ ra n c, w.cell? ⟨b, off + i * 2 + 1, none⟩ = some (.slice ra n c) → n ≤ c ∧ (ra = none → c = 0)) :
    Calls Try.prog 5 #[.slice aS ws.length cS, .slice aL ls.length cL, .slice aU us.length cU, .int .i64 now, .int .i64 which, .int .i64 place, .agg #[.int .i64 ex.1, .int .i64 ex.2]] w fun e w' => e = .returned (.bool true) ∧ Below w.heap.size w w' := by
  have HI : Hid (WinIn w aS ws ∧ ListedIn w aL ls ∧ UnlistedIn w aU us) := ⟨hS, hL, hU⟩
  have HW : Hid ((∀ k (h : k < ls.length), ∀ r ∈ (ls[k]).2.2, wfI r.1 r.2) ∧ (∀ k (h : k < us.length), ∀ r ∈ (us[k]).2, wfI r.1 r.2) ∧ wfI ex.1 ex.2) := ⟨h1, h2, hx⟩
  have HB0 : Hid (Below w.heap.size w (w.alloc (.cells #[.int .i64 ex.1, .int .i64 ex.2] 60))) := (Below.refl _ _).alloc (Nat.le_refl _) _
  have HCP : Hid ((∀ b off, aL = some ⟨b, off, none⟩ → ∀ i, i < ls.length → ∀ ra n c, w.cell? ⟨b, off + i * 3 + 2, none⟩ = some (.slice ra n c) → n ≤ c ∧ (ra = none → c = 0)) ∧ (∀ b off, aU = some ⟨b, off, none⟩ → ∀ i, i < us.length → ∀ ra n c, w.cell? ⟨b, off + i * 2 + 1, none⟩ = some (.slice ra n c) → n ≤ c ∧ (ra = none → c = 0))) := ⟨hcL, hcU⟩
  clear hS hL hU h1 h2 hx hcL hcU
  obtain ⟨i6, hi6, hz60, hz61, hz62⟩ := info_parts info60
  obtain ⟨iL, hiL, hzL0, hzL1, hzL2⟩ := info_parts info65
  obtain ⟨iU, hiU, hzU0, hzU1, hzU2⟩ := info_parts info68
  go_enter Try.func5, Try.ntmps5
  go_wp2_with fail
  refine (bytes_calls _ aS aL aU ws.length cS cL cU ls us now which place ex (HI.out.2.1.later HB0.out) (HI.out.2.2.later HB0.out)).mono ?_
  rintro e w1 ⟨⟨v1, rfl⟩, hb1⟩
  have hx0 : w1.cell? ⟨w.heap.size, 0, none⟩ = some (.int .i64 ex.1) := by rw [hb1.cell (by simp)]; go_simp
  have hx1 : w1.cell? ⟨w.heap.size, 1, none⟩ = some (.int .i64 ex.2) := by rw [hb1.cell (by simp)]; go_simp
  have hs1 : w.heap.size < w1.heap.size := by have := hb1.size; simp at this; omega
  have HB1 : Hid (Below w.heap.size w w1) := HB0.out.trans (hb1.mono (by simp))
  clear hb1
  cases v1
  · go_wp2
    go_ret
    exact ⟨rfl, HB1.out⟩
  go_wp2_with fail
  refine (fits_calls _ aS aL aU ws.length cS cL cU ls us (HI.out.2.1.later HB1.out) (HI.out.2.2.later HB1.out)).mono ?_
  rintro e w2 ⟨⟨v2, rfl, hfit⟩, hb2⟩
  replace hx0 := cell_later hb2 hx0
  replace hx1 := cell_later hb2 hx1
  have hs2 : w.heap.size < w2.heap.size := Nat.lt_of_lt_of_le hs1 hb2.size
  have HB2 : Hid (Below w.heap.size w w2) := HB1.out.trans (hb2.mono (by omega))
  clear hb2 hs1
  cases v2
  · go_wp2
    go_ret
    exact ⟨rfl, HB2.out⟩
  have F := hfit rfl
  have lws := F.s
  have lls := F.l
  have lus := F.u
  have HF : Hid (Fits ws.length ls us ∧ Good ws ls us) := ⟨F, Good.of_fits F HW.out.1 HW.out.2.1⟩
  clear F hfit
  by_cases e1 : ex.1 < 0
  · go_wp2
    go_ret
    exact ⟨rfl, HB2.out⟩
  by_cases e2 : (ws.length : Int) ≤ ex.1
  · go_wp2
    go_ret
    exact ⟨rfl, HB2.out⟩
  obtain ⟨z, hz⟩ : ∃ z : Nat, ex.1 = z := ⟨ex.1.toNat, by omega⟩
  obtain ⟨sb, so, rfl, v0, v1⟩ := (HI.out.1.later HB2.out).at z (by omega)
  have hzi : (z : Int) < ws.length := by omega
  have HZ : Hid (ex.1 = z) := hz
  rw [hz] at hx0
  obtain ⟨zw, hzw⟩ : ∃ zw, zw = ws.getD z (0, 0) := ⟨_, rfl⟩
  rw [← hzw] at v0 v1
  have HZW : Hid (zw = ws.getD z (0, 0)) := hzw
  obtain ⟨x2, hx2⟩ : ∃ x2, x2 = ex.2 := ⟨_, rfl⟩
  rw [← hx2] at hx1
  have HX2 : Hid (ex = ((z : Int), x2)) := Prod.ext hz hx2.symm
  clear hz e1 e2 hzw hx2
  go_wp2_with fail
  refine (validAt_calls _ zw now).mono ?_
  rintro e w3 ⟨rfl, hb3⟩
  replace hx0 := cell_later hb3 hx0
  replace hx1 := cell_later hb3 hx1
  have hs3 : w.heap.size < w3.heap.size := Nat.lt_of_lt_of_le hs2 hb3.size
  have HB3 : Hid (Below w.heap.size w w3) := HB2.out.trans (hb3.mono (by omega))
  clear hb3 hs2 v0 v1
  cases hop : openAt zw now
  case true =>
    go_wp2
    go_ret
    exact ⟨rfl, HB3.out⟩
  have HX : Hid (okW ws now ex = false ∧ inN ws.length ex = true) := ⟨by unfold okW; rw [HZ.out, ← hop, HZW.out]; rfl, by have := HZ.out; simp [inN]; omega⟩
  clear hop
  by_cases e3 : which < 0
  · go_wp2
    go_ret
    exact ⟨rfl, HB3.out⟩
  by_cases e4 : (ls.length : Int) + us.length ≤ which
  · go_wp2
    go_ret
    exact ⟨rfl, HB3.out⟩
  obtain ⟨k, rfl⟩ : ∃ k : Nat, which = k := ⟨which.toNat, by omega⟩
  go_upto_if 77 with fail
  go_cut [15] (fun v wx => ∃ ra rc rs, v = .slice ra rs.length rc ∧ Sel w ls us k ra rc rs ∧ w3 = wx)
  case first =>
    as_aux_lemma =>
      by_cases hkl : k < ls.length
      · rcases HI.out.2.1 with h0 | ⟨b, off, rfl, hc⟩
        · rw [h0] at hkl; simp at hkl
        · obtain ⟨_, _, ra, rc, x2', hrf⟩ := hc k hkl
          obtain ⟨hcap1, hcap2⟩ := HCP.out.1 b off rfl k hkl _ _ _ x2'
          obtain ⟨rs, hrs⟩ : ∃ rs, rs = (ls[k]).2.2 := ⟨_, rfl⟩
          rw [← hrs] at x2' hrf hcap1
          have y2 := cell_later HB3.out x2'
          have hrl : rs.length ≤ 65536 := by
            have h1 := flat_le ls (·.2.2) (k + 1)
            rw [flat_next hkl, List.length_append, ← hrs] at h1
            have := HF.out.1.lt
            omega
          have HR : Hid (Sel w ls us k ra rc rs) := ⟨hrf, hcap1, hcap2, hrl, Or.inl ⟨hkl, hrs⟩⟩
          have hki : (k : Int) < ls.length := by omega
          have hkd : decide ((k : Int) < ls.length) = true := decide_eq_true hki
          clear hc x2' hrs hrf hcap1 hcap2
          go_wp2
          go_meet
          case rel => exact ⟨ra, rc, rs, rfl, HR.out, rfl⟩
      · rcases HI.out.2.2 with h0 | ⟨b, off, rfl, hc⟩
        · rw [h0] at e4; simp at e4; omega
        · obtain ⟨j, hj⟩ : ∃ j, j = k - ls.length := ⟨_, rfl⟩
          have hju : j < us.length := by omega
          obtain ⟨_, ra, rc, x2', hrf⟩ := hc j hju
          obtain ⟨hcap1, hcap2⟩ := HCP.out.2 b off rfl j hju _ _ _ x2'
          obtain ⟨rs, hrs⟩ : ∃ rs, rs = (us[j]).2 := ⟨_, rfl⟩
          rw [← hrs] at x2' hrf hcap1
          have y2 := cell_later HB3.out x2'
          have hrl : rs.length ≤ 65536 := by
            have h1 := flat_le us (·.2) (j + 1)
            rw [flat_next hju, List.length_append, ← hrs] at h1
            have := HF.out.1.ut
            omega
          have HR : Hid (Sel w ls us k ra rc rs) := ⟨hrf, hcap1, hcap2, hrl, Or.inr ⟨by omega, by rw [← hj]; exact hju, by subst hj; exact hrs⟩⟩
          have hki : ¬ (k : Int) < ls.length := by omega
          have hkd : decide ((k : Int) < ls.length) = false := decide_eq_false hki
          have hsub : (k : Int) - ls.length = j := by omega
          have hji : (j : Int) < us.length := by omega
          clear hc x2' hrs hrf hcap1 hcap2 hj
          go_wp2
          go_meet
          case rel => exact ⟨ra, rc, rs, rfl, HR.out, rfl⟩
  case rest =>
    obtain ⟨ra, rc, rs, rfl, hsel, rfl⟩ := hcut
    have hrl := hsel.len
    have HSel : Hid (Sel w ls us k ra rc rs) := hsel
    clear hsel e3 e4
    by_cases e5 : place < 0
    · go_wp2
      go_ret
      exact ⟨rfl, HB3.out⟩
    by_cases e6 : (rs.length : Int) < place
    · go_wp2
      go_ret
      exact ⟨rfl, HB3.out⟩
    obtain ⟨p, rfl⟩ : ∃ p : Nat, place = p := ⟨place.toNat, by omega⟩
    have hpl : p ≤ rs.length := by omega
    have hpi : (p : Int) ≤ rs.length := by omega
    clear e5 e6
    go_upto_region 16 with (at_make; refine wpList_make_cap _ rfl _ _ 55 rfl 60 i6 (.agg #[.int .i64 0, .int .i64 0]) 2 Try.underlying55 hi6 hz60 hz61 .i64 .i64 _ _ 0 (rs.length + 1) rfl rfl (by simp) (by simp) (Nat.zero_le _) (by rw [hz62]; omega) (by unfold maxLen; omega) ?_)
    have HO0 : Hid ((w3.alloc (.cells (zrow (.agg #[.int .i64 0, .int .i64 0]) ((rs.length + 1) * 2)) 60)).ownsRow w3.heap.size 60 2 (.slice (some ⟨w3.heap.size, 0, none⟩) 0 (rs.length + 1)) 0 []) := row_made w3 _ (by unfold maxLen; omega)
    have HBm : Hid (Below w3.heap.size w3 (w3.alloc (.cells (zrow (.agg #[.int .i64 0, .int .i64 0]) ((rs.length + 1) * 2)) 60))) := (Below.refl _ _).alloc (Nat.le_refl _) _
    go_cut [16] (fun v wx => wx.ownsRow w3.heap.size 60 2 v p (rcells (rs.take p)) ∧ Below w3.heap.size w3 wx)
    case first =>
      as_aux_lemma =>
        cases ra with
        | none =>
          have hrs0 : rs = [] := by
            rcases HSel.out.refs with h | ⟨b, off, e, _⟩
            · exact h
            · cases e
          have hrc0 : rc = 0 := HSel.out.nil rfl
          subst hrs0 hrc0
          have hp0 : p = 0 := by simpa using hpl
          subst hp0
          go_wp2_with (at_builtin; refine wpList_append_own_none rfl _ _ 55 rfl w3.heap.size 60 i6 2 Try.underlying55 hi6 (.slice (some ⟨w3.heap.size, 0, none⟩) 0 1) 0 [] rfl HO0.out rfl ?_)
          go_meet
          case rel => exact ⟨HO0.out, HBm.out⟩
        | some ad =>
          obtain ⟨ab, ao, asp⟩ := ad
          have hpc : (p : Int) ≤ rc := by have := HSel.out.cap; omega
          have HN1 : Hid (∀ j u, (rcells (rs.take p))[j]? = some u → (w3.alloc (.cells (zrow (.agg #[.int .i64 0, .int .i64 0]) ((rs.length + 1) * 2)) 60)).cell? ((⟨ab, ao, asp⟩ : Addr).add j) = some u) := news_take ((HSel.out.refs.later HB3.out).later HBm.out) p
          have HL1 : Hid ((rcells (rs.take p)).length = p * 2) := by
            show (rcells (rs.take p)).length = p * 2
            rw [rcells_len]
            simp
            omega
          go_wp2_with (at_builtin; refine wpList_append_own _ rfl _ _ 55 rfl w3.heap.size 60 i6 (.agg #[.int .i64 0, .int .i64 0]) 2 16 Try.underlying55 hi6 hz60 hz61 hz62 rfl (by omega) (.slice (some ⟨w3.heap.size, 0, none⟩) 0 (rs.length + 1)) 0 [] rfl HO0.out ⟨ab, ao, asp⟩ p rc (rcells (rs.take p)) rfl HL1.out HN1.out (rcells_one _) (by unfold maxLen; omega) (by omega) (by simp) ?_; intro v4 w4 hown4 hgrow4 hnil4)
          go_meet
          case rel =>
            rw [Nat.zero_add, List.nil_append] at hown4
            exact ⟨hown4, below_row HBm.out HO0.out hgrow4 (by simp)⟩
    case rest =>
      obtain ⟨hown4, hb4⟩ := hcut
      have hx0c : wc.cell? ⟨w.heap.size, 0, none⟩ = some (.int .i64 z) := (hb4.cell (p := ⟨w.heap.size, 0, none⟩) hs3).trans hx0
      have hx1c : wc.cell? ⟨w.heap.size, 1, none⟩ = some (.int .i64 x2) := (hb4.cell (p := ⟨w.heap.size, 1, none⟩) hs3).trans hx1
      have HB4 : Hid (Below w3.heap.size w3 wc) := hb4
      have HO5 : Hid ((wc.alloc (.cells #[.int .i64 z, .int .i64 x2] 60)).ownsRow w3.heap.size 60 2 u16 p (rcells (rs.take p))) := hown4.alloc _
      have hs4 : w3.heap.size ≤ wc.heap.size := hb4.size
      have HBa : Hid (Below w3.heap.size w3 (wc.alloc (.cells #[.int .i64 z, .int .i64 x2] 60))) := hb4.alloc hs4 _
      clear hown4 hb4 HO0 HBm
      obtain ⟨wd, hwd⟩ : ∃ wd, wd = wc := ⟨_, rfl⟩
      subst hwd
      obtain ⟨v4, hv4⟩ : ∃ v4, v4 = u16 := ⟨_, rfl⟩
      subst hv4
      go_upto_region 18 with (at_builtin; refine wpList_append_own _ rfl _ _ 55 rfl w3.heap.size 60 i6 (.agg #[.int .i64 0, .int .i64 0]) 2 16 Try.underlying55 hi6 hz60 hz61 hz62 rfl (by omega) v4 p (rcells (rs.take p)) rfl HO5.out ⟨wd.heap.size, 0, none⟩ 1 1 [.int .i64 z, .int .i64 x2] rfl rfl (two_new _ _ _ _) (by simp [Value.oneCell']) (by unfold maxLen; omega) (by omega) (by simp; omega) ?_; intro v5 w5 hown5 hgrow5 hnil5)
      have HO6 : Hid (w5.ownsRow w3.heap.size 60 2 v5 (p + 1) (rcells (rs.take p) ++ [.int .i64 z, .int .i64 x2])) := hown5
      have HB5 : Hid (Below w3.heap.size w3 w5) := below_row HBa.out HO5.out hgrow5 (by simp; omega)
      clear hown5 hgrow5 hnil5 HO5 HBa
      go_cut [16] (fun v wx => Own wx w3.heap.size 60 v (putIn rs p ex) ∧ Below w3.heap.size w3 wx)
      case first =>
        as_aux_lemma =>
          cases ra with
          | none =>
            have hrs0 : rs = [] := by
              rcases HSel.out.refs with h | ⟨b, off, e, _⟩
              · exact h
              · cases e
            have hrc0 : rc = 0 := HSel.out.nil rfl
            subst hrs0 hrc0
            have hp0 : p = 0 := by simpa using hpl
            subst hp0
            go_wp2_with (at_builtin; refine wpList_append_own_none rfl _ _ 55 rfl w3.heap.size 60 i6 2 Try.underlying55 hi6 v5 (0 + 1) (rcells (([] : List (Int × Int)).take 0) ++ [.int .i64 z, .int .i64 x2]) rfl HO6.out rfl ?_)
            go_meet
            case rel =>
              refine ⟨?_, HB5.out⟩
              have := HO6.out
              rw [HX2.out]
              exact this
          | some ad =>
            obtain ⟨ab, ao, asp⟩ := ad
            have hpc : (p : Int) ≤ rc := by have := HSel.out.cap; omega
            have hrc : (rs.length : Int) ≤ rc := by have := HSel.out.cap; omega
            have HRW : Hid (RefsIn w5 (some ⟨ab, ao, asp⟩) rs) := (HSel.out.refs.later HB3.out).later (⟨HB5.out.os, HB5.out.tape, HB5.out.output, HB5.out.size, HB5.out.block⟩)
            have HL3 : Hid ((rcells (rs.drop p)).length = (rs.length - p) * 2) := by
              show (rcells (rs.drop p)).length = (rs.length - p) * 2
              rw [rcells_len]
              simp
            by_cases hrp : rc = p
            · have hpe : p = rs.length := by have := HSel.out.cap; omega
              have HN3 : Hid (∀ j u, (rcells (rs.drop p))[j]? = some u → w5.cell? ((⟨ab, ao, asp⟩ : Addr).add j) = some u) := by
                intro j u hu
                rw [hpe, List.drop_length] at hu
                simp [rcells] at hu
              have HPE : Hid (p = rs.length) := hpe
              subst hrp
              clear hpe
              go_wp2_with (at_builtin; refine wpList_append_own _ rfl _ _ 55 rfl w3.heap.size 60 i6 (.agg #[.int .i64 0, .int .i64 0]) 2 16 Try.underlying55 hi6 hz60 hz61 hz62 rfl (by omega) v5 (rc + 1) (rcells (rs.take rc) ++ [.int .i64 z, .int .i64 x2]) rfl HO6.out ⟨ab, ao, asp⟩ (rs.length - rc) 0 (rcells (rs.drop rc)) rfl HL3.out HN3.out (rcells_one _) (by unfold maxLen; omega) (by omega) (by have := HB5.out.size; omega) ?_; intro v6 w6 hown6 hgrow6 hnil6)
              go_meet
              case rel =>
                refine ⟨?_, below_row HB5.out HO6.out hgrow6 HB5.out.size⟩
                exact put_own HX2.out hpl hown6
            · by_cases hp0 : p = 0
              · subst hp0
                have HN3 : Hid (∀ j u, (rcells (rs.drop 0))[j]? = some u → w5.cell? ((⟨ab, ao, asp⟩ : Addr).add j) = some u) := by
                  intro j u hu
                  rw [List.drop_zero] at hu
                  exact refs_cells HRW.out j u hu
                have hrp' : ¬ (rc : Int) = 0 := by omega
                go_wp2_with (at_builtin; refine wpList_append_own _ rfl _ _ 55 rfl w3.heap.size 60 i6 (.agg #[.int .i64 0, .int .i64 0]) 2 16 Try.underlying55 hi6 hz60 hz61 hz62 rfl (by omega) v5 (0 + 1) (rcells (rs.take 0) ++ [.int .i64 z, .int .i64 x2]) rfl HO6.out ⟨ab, ao, asp⟩ rs.length rc (rcells (rs.drop 0)) rfl (by have := HL3.out; simpa using this) HN3.out (rcells_one _) (by unfold maxLen; omega) (by omega) (by have := HB5.out.size; omega) ?_; intro v6 w6 hown6 hgrow6 hnil6)
                go_meet
                case rel =>
                  refine ⟨?_, below_row HB5.out HO6.out hgrow6 HB5.out.size⟩
                  exact put_own HX2.out hpl hown6
              · have HN3 : Hid (∀ j u, (rcells (rs.drop p))[j]? = some u → w5.cell? (((⟨ab, ao, asp⟩ : Addr).add (p * 2)).add j) = some u) := news_drop HRW.out p
                have hrp' : ¬ rc - p = 0 := by have := HSel.out.cap; omega
                have hp0' : ¬ p * 2 = 0 := by omega
                go_wp2_with (at_builtin; refine wpList_append_own _ rfl _ _ 55 rfl w3.heap.size 60 i6 (.agg #[.int .i64 0, .int .i64 0]) 2 16 Try.underlying55 hi6 hz60 hz61 hz62 rfl (by omega) v5 (p + 1) (rcells (rs.take p) ++ [.int .i64 z, .int .i64 x2]) rfl HO6.out ((⟨ab, ao, asp⟩ : Addr).add (p * 2)) (rs.length - p) (rc - p) (rcells (rs.drop p)) rfl HL3.out HN3.out (rcells_one _) (by unfold maxLen; omega) (by omega) (by have := HB5.out.size; omega) ?_; intro v6 w6 hown6 hgrow6 hnil6)
                go_meet
                case rel =>
                  refine ⟨?_, below_row HB5.out HO6.out hgrow6 HB5.out.size⟩
                  exact put_own HX2.out hpl hown6
      case rest =>
        obtain ⟨hown6, hb6⟩ := hcut
        obtain ⟨ga, gc, hgv, hgr⟩ := hown6.refs
        rw [length_putIn hpl] at hgv
        subst hgv
        obtain ⟨wg, hwg⟩ : ∃ wg, wg = wc := ⟨_, rfl⟩
        subst hwg
        have HG : Hid (RefsIn wg ga (putIn rs p ex) ∧ Below w.heap.size w wg) := ⟨hgr, HB3.out.trans (hb6.mono (by omega))⟩
        clear hown6 hb6 hgr HO6 HB5 HB4 hs4
        go_wp2_with (at_make; refine wpList_make_cap _ rfl _ _ 51 rfl 65 iL (.agg #[.string ⟨#[]⟩, .string ⟨#[]⟩, .slice none 0 0]) 3 Try.underlying51 hiL hzL0 hzL1 .i64 .i64 _ _ ls.length ls.length rfl rfl (by simp) (by simp) (Nat.le_refl _) (by rw [hzL2]; omega) (by unfold maxLen; omega) ?_)
        go_loopg [18] ls.length (fun j i wi => ∃ t : Nat, t ≤ ls.length ∧ i = .int .i64 t ∧ j = ls.length - t ∧ CpL wi wg wg.heap.size ls t ∧ Below wg.heap.size wg wi)
        case atStart => exact ⟨0, Nat.zero_le _, rfl, rfl, ⟨_, new_block0 _ _ _ rfl, zrow_size _ _, fun i _ h0 => absurd h0 (by omega)⟩, (Below.refl _ _).alloc (Nat.le_refl _) _⟩
        case round =>
          obtain ⟨t, ht, rfl, hgt, hcp, hbel⟩ := hrel
          by_cases htl : t < ls.length
          · rcases HI.out.2.1 with h0 | ⟨b, off, rfl, hc⟩
            · rw [h0] at htl; simp at htl
            · obtain ⟨x0, x1, ra1, rc1, x2', hrf⟩ := hc t htl
              have hbw : Below w.heap.size w wr := HG.out.2.trans (hbel.mono HG.out.2.size)
              have y0 := cell_later hbw x0
              have y1 := cell_later hbw x1
              have y2 := cell_later hbw x2'
              have lb := World.block_lt_of_cell? w ⟨b, off + t * 3, none⟩ x0
              simp only at lb
              have hwg2 : w.heap.size ≤ wg.heap.size := HG.out.2.size
              have lbg : b < wg.heap.size := by omega
              obtain ⟨A, hA⟩ : ∃ A, A = (ls[t]).1 := ⟨_, rfl⟩
              obtain ⟨B, hB⟩ : ∃ B, B = (ls[t]).2.1 := ⟨_, rfl⟩
              obtain ⟨n0, hn0⟩ : ∃ n0, n0 = (ls[t]).2.2.length := ⟨_, rfl⟩
              rw [← hA] at y0
              rw [← hB] at y1
              rw [← hn0] at y2
              have HX : Hid (CpL wr wg wg.heap.size ls t ∧ Below wg.heap.size wg wr ∧ gk = ls.length - t ∧ A = (ls[t]).1 ∧ B = (ls[t]).2.1 ∧ n0 = (ls[t]).2.2.length ∧ RefsIn wg ra1 (ls[t]).2.2) := ⟨hcp, hbel, hgt, hA, hB, hn0, hrf.later HG.out.2⟩
              obtain ⟨c, h1, h2, h3⟩ := hcp
              obtain ⟨z0, hv0⟩ := some_at (c := c) (j := t * 3) (by omega)
              obtain ⟨z1, hv1⟩ := some_at (c := c) (j := t * 3 + 1) (by omega)
              obtain ⟨z2, hv2⟩ := some_at (c := c) (j := t * 3 + 2) (by omega)
              have q0 := cell_of_block h1 hv0
              have q1 := cell_of_block h1 hv1
              have q2 := cell_of_block h1 hv2
              have f0 : wr.frozen? ⟨wg.heap.size, t * 3, none⟩ = false := free_of_block h1
              have f1 : wr.frozen? ⟨wg.heap.size, t * 3 + 1, none⟩ = false := free_of_block h1
              have f2 : wr.frozen? ⟨wg.heap.size, t * 3 + 2, none⟩ = false := free_of_block h1
              have hti : (t : Int) < ls.length := by omega
              clear h1 h2 h3 hv0 hv1 hv2 hbel hgt hA hB hn0 hrf hbw x0 x1 x2' hc
              go_wp2_with fail
              go_roundg (ls.length - (t + 1))
              case measure => have := HX.out.2.2.1; omega
              case rel =>
                obtain ⟨d1, d2, _, d4, d5, d6, d7⟩ := HX.out
                exact ⟨t + 1, by omega, by go_num, rfl, d1.step htl d4 d5 d6 d7, ((d2.setCell (Nat.le_refl _) _).setCell (Nat.le_refl _) _).setCell (Nat.le_refl _) _⟩
          · have et : t = ls.length := by omega
            subst et
            obtain ⟨wq, hwq⟩ : ∃ wq, wq = wr := ⟨_, rfl⟩
            subst hwq
            have HL : Hid (CpL wq wg wg.heap.size ls ls.length ∧ Below wg.heap.size wg wq) := ⟨hcp, hbel⟩
            clear hcp hbel hgt
            go_wp2_with (at_make; refine wpList_make_cap _ rfl _ _ 52 rfl 68 iU (.agg #[.string ⟨#[]⟩, .slice none 0 0]) 2 Try.underlying52 hiU hzU0 hzU1 .i64 .i64 _ _ us.length us.length rfl rfl (by simp) (by simp) (Nat.le_refl _) (by rw [hzU2]; omega) (by unfold maxLen; omega) ?_)
            go_loopg [20] us.length (fun j i wi => ∃ t : Nat, t ≤ us.length ∧ i = .int .i64 t ∧ j = us.length - t ∧ CpU wi wg wq.heap.size us t ∧ Below wq.heap.size wq wi)
            case atStart => exact ⟨0, Nat.zero_le _, rfl, rfl, ⟨_, new_block0 _ _ _ rfl, zrow_size _ _, fun i _ h0 => absurd h0 (by omega)⟩, (Below.refl _ _).alloc (Nat.le_refl _) _⟩
            case round =>
              obtain ⟨t, ht, rfl, hgt, hcp, hbel⟩ := hrel
              have hbg : Below wg.heap.size wg wr := HL.out.2.trans (hbel.mono HL.out.2.size)
              by_cases htl : t < us.length
              · rcases HI.out.2.2 with h0 | ⟨b, off, rfl, hc⟩
                · rw [h0] at htl; simp at htl
                · obtain ⟨x0, ra1, rc1, x2', hrf⟩ := hc t htl
                  have hbw : Below w.heap.size w wr := HG.out.2.trans (hbg.mono HG.out.2.size)
                  have y0 := cell_later hbw x0
                  have y2 := cell_later hbw x2'
                  have lb := World.block_lt_of_cell? w ⟨b, off + t * 2, none⟩ x0
                  simp only at lb
                  have hwg2 : w.heap.size ≤ wg.heap.size := HG.out.2.size
                  have hwq2 : wg.heap.size ≤ wq.heap.size := HL.out.2.size
                  have lbg : b < wq.heap.size := by omega
                  obtain ⟨A, hA⟩ : ∃ A, A = (us[t]).1 := ⟨_, rfl⟩
                  obtain ⟨n0, hn0⟩ : ∃ n0, n0 = (us[t]).2.length := ⟨_, rfl⟩
                  rw [← hA] at y0
                  rw [← hn0] at y2
                  have HX : Hid (CpU wr wg wq.heap.size us t ∧ Below wq.heap.size wq wr ∧ gk = us.length - t ∧ A = (us[t]).1 ∧ n0 = (us[t]).2.length ∧ RefsIn wg ra1 (us[t]).2) := ⟨hcp, hbel, hgt, hA, hn0, hrf.later HG.out.2⟩
                  obtain ⟨c, h1, h2, h3⟩ := hcp
                  obtain ⟨z0, hv0⟩ := some_at (c := c) (j := t * 2) (by omega)
                  obtain ⟨z1, hv1⟩ := some_at (c := c) (j := t * 2 + 1) (by omega)
                  have q0 := cell_of_block h1 hv0
                  have q1 := cell_of_block h1 hv1
                  have f0 : wr.frozen? ⟨wq.heap.size, t * 2, none⟩ = false := free_of_block h1
                  have f1 : wr.frozen? ⟨wq.heap.size, t * 2 + 1, none⟩ = false := free_of_block h1
                  have hti : (t : Int) < us.length := by omega
                  clear h1 h2 h3 hv0 hv1 hbel hgt hA hn0 hrf hbw x0 x2' hc hbg
                  go_wp2_with fail
                  go_roundg (us.length - (t + 1))
                  case measure => have := HX.out.2.2.1; omega
                  case rel =>
                    obtain ⟨d1, d2, _, d4, d6, d7⟩ := HX.out
                    exact ⟨t + 1, by omega, by go_num, rfl, d1.step htl d4 d6 d7, (d2.setCell (Nat.le_refl _) _).setCell (Nat.le_refl _) _⟩
              · have et : t = us.length := by omega
                subst et
                obtain ⟨wp, hwp⟩ : ∃ wp, wp = wr := ⟨_, rfl⟩
                subst hwp
                have HU : Hid (CpL wp wg wg.heap.size ls ls.length ∧ CpU wp wg wq.heap.size us us.length ∧ Below wg.heap.size wg wp ∧ wg.heap.size < wq.heap.size) := ⟨HL.out.1.later hbel, hcp, hbg, HL.out.1.lt⟩
                clear hcp hbel hgt hbg
                go_upto_if 152 with fail
                go_cut [] (fun wx => ∃ ls2 us2, ls2.length = ls.length ∧ us2.length = us.length ∧ ListedIn wx (some ⟨wg.heap.size, 0, none⟩) ls2 ∧ UnlistedIn wx (some ⟨wq.heap.size, 0, none⟩) us2 ∧ Good ws ls2 us2 ∧ EqL (okW ws now) ls ls2 ∧ EqU (okW ws now) us us2 ∧ Below w.heap.size w wx)
                case first =>
                  as_aux_lemma =>
                    by_cases hkl : k < ls.length
                    · have hrs : rs = (ls[k]).2.2 := by
                        rcases HSel.out.which with ⟨_, h⟩ | ⟨h, _⟩
                        · exact h
                        · omega
                      have HRS : Hid (rs = (ls[k]).2.2) := hrs
                      obtain ⟨c, h1, h2, h3⟩ := HU.out.1
                      obtain ⟨z0, hv0⟩ := some_at (c := c) (j := k * 3 + 2) (by omega)
                      have q0 := cell_of_block h1 hv0
                      have f0 : wp.frozen? ⟨wg.heap.size, k * 3 + 2, none⟩ = false := free_of_block h1
                      have hki : (k : Int) < ls.length := by omega
                      have hkd : decide ((k : Int) < ls.length) = true := decide_eq_true hki
                      clear h1 h2 h3 hv0 hrs
                      go_wp2
                      go_meet
                      case rel =>
                        obtain ⟨u1, u2, u3, u4⟩ := HU.out
                        have hput := u1.put hkl (n := rs.length + 1) (rc := gc) (length_putIn (x := ex) hpl).symm HG.out.1
                        have hb9 : Below wg.heap.size wg (wp.setCell ⟨wg.heap.size, k * 3 + 2, none⟩ (.slice ga (rs.length + 1) gc)) := u3.setCell (Nat.le_refl _) _
                        refine ⟨ls.set k ((ls[k]).1, (ls[k]).2.1, putIn rs p ex), us, by simp, rfl, CpL.listed (W := wg) (by rw [List.length_set]; exact hput) hb9, (u2.other (by omega) _).unlisted hb9, ?_, ?_, EqU.refl _ _, HG.out.2.trans (hb9.mono HG.out.2.size)⟩
                        · rw [HRS.out]
                          exact HF.out.2.setL HF.out.1 hkl HX.out.2 HW.out.2.2 (by rw [← HRS.out]; exact hpl)
                        · rw [HRS.out]
                          exact EqL.set hkl HX.out.1
                    · obtain ⟨j, hj⟩ : ∃ j, j = k - ls.length := ⟨_, rfl⟩
                      have hrj : ∃ h : j < us.length, rs = (us[j]).2 := by
                        rcases HSel.out.which with ⟨h, _⟩ | ⟨_, h⟩
                        · omega
                        · subst hj; exact h
                      obtain ⟨hju, hrs⟩ := hrj
                      have HRS : Hid (rs = (us[j]).2) := hrs
                      obtain ⟨c, h1, h2, h3⟩ := HU.out.2.1
                      obtain ⟨z0, hv0⟩ := some_at (c := c) (j := j * 2 + 1) (by omega)
                      have q0 := cell_of_block h1 hv0
                      have f0 : wp.frozen? ⟨wq.heap.size, j * 2 + 1, none⟩ = false := free_of_block h1
                      have hki : ¬ (k : Int) < ls.length := by omega
                      have hkd : decide ((k : Int) < ls.length) = false := decide_eq_false hki
                      have hsub : (k : Int) - ls.length = j := by omega
                      have hji : (j : Int) < us.length := by omega
                      clear h1 h2 h3 hv0 hrs hj
                      go_wp2
                      go_meet
                      case rel =>
                        obtain ⟨u1, u2, u3, u4⟩ := HU.out
                        have hput := u2.put hju (n := rs.length + 1) (rc := gc) (length_putIn (x := ex) hpl).symm HG.out.1
                        have hb9 : Below wg.heap.size wg (wp.setCell ⟨wq.heap.size, j * 2 + 1, none⟩ (.slice ga (rs.length + 1) gc)) := u3.setCell (by show wg.heap.size ≤ wq.heap.size; omega) _
                        refine ⟨ls, us.set j ((us[j]).1, putIn rs p ex), rfl, by simp, (u1.other (by omega) _).listed hb9, CpU.unlisted (W := wg) (by rw [List.length_set]; exact hput) hb9, ?_, EqL.refl _ _, ?_, HG.out.2.trans (hb9.mono HG.out.2.size)⟩
                        · rw [HRS.out]
                          exact HF.out.2.setU HF.out.1 hju HX.out.2 HW.out.2.2 (by rw [← HRS.out]; exact hpl)
                        · rw [HRS.out]
                          exact EqU.set hju HX.out.1
                case rest =>
                  as_aux_lemma =>
                    obtain ⟨ls2, us2, eL, eU, hL2, hU2, hG2, hEL, hEU, hbx⟩ := hcut
                    obtain ⟨w9, hw9⟩ : ∃ w9, w9 = wc := ⟨_, rfl⟩
                    subst hw9
                    have HT : Hid (ListedIn w9 (some ⟨wg.heap.size, 0, none⟩) ls2 ∧ UnlistedIn w9 (some ⟨wq.heap.size, 0, none⟩) us2 ∧ Good ws ls2 us2 ∧ EqL (okW ws now) ls ls2 ∧ EqU (okW ws now) us us2 ∧ Below w.heap.size w w9 ∧ ls2.length = ls.length ∧ us2.length = us.length) := ⟨hL2, hU2, hG2, hEL, hEU, hbx, eL, eU⟩
                    clear hL2 hU2 hG2 hEL hEU hbx eL eU HU HL
                    go_wp2_with fail
                    refine (call_calls w9 (some ⟨sb, so, none⟩) aL aU cS cL cU ws ls us now (HI.out.1.later HT.out.2.2.2.2.2.1) (HI.out.2.1.later HT.out.2.2.2.2.2.1) (HI.out.2.2.later HT.out.2.2.2.2.2.1) HF.out.2).mono ?_
                    rintro e wa ⟨r1, l1, u1, n1, rfl, R1, rfl, c1, c2, c3, c4, c5, c6, c7⟩
                    have HA : Hid (R1.Nodup ∧ Mem (okW ws now) ls us R1 ∧ RefsIn wa (some ⟨r1, 0, none⟩) R1 ∧ (∀ i (h : i < ls.length), ∃ v, wa.cell? ⟨l1, i, none⟩ = some v ∧ BitOf wa R1 (ls[i]).2.2 v) ∧ (∀ i (h : i < us.length), ∃ v, wa.cell? ⟨u1, i, none⟩ = some v ∧ BitOf wa R1 (us[i]).2 v) ∧ Below w9.heap.size w9 wa ∧ Below w.heap.size w wa) := ⟨c1, c2, c4, c5, c6, c7, HT.out.2.2.2.2.2.1.trans (c7.mono HT.out.2.2.2.2.2.1.size)⟩
                    clear c1 c2 c4 c5 c6 c7
                    go_wp2_with fail
                    have hc2 := call_calls wa (some ⟨sb, so, none⟩) (some ⟨wg.heap.size, 0, none⟩) (some ⟨wq.heap.size, 0, none⟩) cS ls.length us.length ws ls2 us2 now (HI.out.1.later HA.out.2.2.2.2.2.2) (HT.out.1.later HA.out.2.2.2.2.2.1) (HT.out.2.1.later HA.out.2.2.2.2.2.1) HT.out.2.2.1
                    rw [HT.out.2.2.2.2.2.2.1, HT.out.2.2.2.2.2.2.2] at hc2
                    refine hc2.mono ?_
                    clear hc2
                    rintro e wb ⟨r2, l2, u2, n2, rfl, R2, hn2, d1, d2, d3, d4, d5, d6, d7⟩
                    have hms : ∀ x, x ∈ R1 ↔ x ∈ R2 := mem_same HA.out.2.1 d2 HT.out.2.2.2.1 HT.out.2.2.2.2.1
                    have hlen : R2.length = R1.length := (length_same HA.out.1 d1 hms).symm
                    obtain rfl : n2 = R1.length := hn2.trans hlen
                    have HB : Hid (R2.length = R1.length ∧ (∀ x, x ∈ R1 ↔ x ∈ R2) ∧ RefsIn wb (some ⟨r2, 0, none⟩) R2 ∧ RefsIn wb (some ⟨r1, 0, none⟩) R1 ∧ (∀ i (h : i < ls.length), ∃ v v' rs2, wb.cell? ⟨l1, i, none⟩ = some v ∧ BitOf wb R1 (ls[i]).2.2 v ∧ wb.cell? ⟨l2, i, none⟩ = some v' ∧ BitOf wb R2 rs2 v' ∧ ∀ x, okW ws now x = true → (x ∈ (ls[i]).2.2 ↔ x ∈ rs2)) ∧ (∀ i (h : i < us.length), ∃ v v' rs2, wb.cell? ⟨u1, i, none⟩ = some v ∧ BitOf wb R1 (us[i]).2 v ∧ wb.cell? ⟨u2, i, none⟩ = some v' ∧ BitOf wb R2 rs2 v' ∧ ∀ x, okW ws now x = true → (x ∈ (us[i]).2 ↔ x ∈ rs2)) ∧ Below w.heap.size w wb ∧ (∀ x ∈ R1, okW ws now x = true)) := by
                      refine ⟨hlen, hms, d4, HA.out.2.2.1.later d7, fun i hi => ?_, fun i hi => ?_, HA.out.2.2.2.2.2.2.trans (d7.mono HA.out.2.2.2.2.2.2.size), fun x hx => ((HA.out.2.1 x).1 hx).2⟩
                      · obtain ⟨v, k1, k2⟩ := HA.out.2.2.2.1 i hi
                        have hi2 : i < ls2.length := by rw [HT.out.2.2.2.2.2.2.1]; exact hi
                        obtain ⟨v', k3, k4⟩ := d5 i hi2
                        exact ⟨v, v', _, cell_later d7 k1, k2.later d7, k3, k4, HT.out.2.2.2.1.2 i hi hi2⟩
                      · obtain ⟨v, k1, k2⟩ := HA.out.2.2.2.2.1 i hi
                        have hi2 : i < us2.length := by rw [HT.out.2.2.2.2.2.2.2]; exact hi
                        obtain ⟨v', k3, k4⟩ := d6 i hi2
                        exact ⟨v, v', _, cell_later d7 k1, k2.later d7, k3, k4, HT.out.2.2.2.2.1.2 i hi hi2⟩
                    have l2b : R2.length ≤ 200000 := d3
                    have l1b : R1.length ≤ 200000 := c3
                    clear hms hlen hn2 d1 d2 d3 d4 d5 d6 d7 c3
                    go_wp2_with fail
                    refine (distinct_calls wb (some ⟨sb, so, none⟩) aL aU cS cL cU ws ls us now (HI.out.1.later HB.out.2.2.2.2.2.2.1) (HI.out.2.1.later HB.out.2.2.2.2.2.2.1) (HI.out.2.2.later HB.out.2.2.2.2.2.2.1) lls lus (fun e he => by obtain ⟨i, hi, rfl⟩ := List.getElem_of_mem he; exact (HF.out.2.l1 i hi).2.1) (fun e he => by obtain ⟨i, hi, rfl⟩ := List.getElem_of_mem he; exact (HF.out.2.u1 i hi).2.1) HF.out.2.lt HF.out.2.ut).mono ?_
                    rintro e wd2 ⟨rfl, hbd⟩
                    rw [gather_same HA.out.1 HA.out.2.1]
                    have HD : Hid (Below wb.heap.size wb wd2) := hbd
                    clear hbd
                    go_wp2_with fail
                    go_loopg [27] R1.length (fun j i wi => ∃ t : Nat, t ≤ R1.length ∧ i = .int .i64 t ∧ j = R1.length - t ∧ Below wb.heap.size wb wi)
                    case atStart => exact ⟨0, Nat.zero_le _, rfl, rfl, HD.out⟩
                    case round =>
                      obtain ⟨t, ht, rfl, hgt, hbel⟩ := hrel
                      by_cases htl : t < R1.length
                      · rcases HB.out.2.2.2.1 with h0 | ⟨rb, ro, er, hcr⟩
                        · rw [h0] at htl; simp at htl
                        · cases er
                          obtain ⟨p0, p1⟩ := hcr t htl
                          rw [Nat.zero_add] at p0 p1
                          have q0 := cell_later hbel p0
                          have q1 := cell_later hbel p1
                          obtain ⟨x, hx⟩ : ∃ x, x = R1[t] := ⟨_, rfl⟩
                          rw [← hx] at q0 q1
                          have HY : Hid (x = R1[t] ∧ Below wb.heap.size wb wr ∧ gk = R1.length - t) := ⟨hx, hbel, hgt⟩
                          have hti : (t : Int) < R1.length := by omega
                          clear hx hbel hgt p0 p1 hcr
                          go_wp2_with fail
                          have hix := indexOf_calls wr (some ⟨r2, 0, none⟩) R1.length R2 x (HB.out.2.2.1.later HY.out.2.1) (by omega)
                          rw [HB.out.1] at hix
                          refine hix.mono ?_
                          clear hix
                          rintro e wi2 ⟨rfl, hb2⟩
                          have hmem : x ∈ R2 := (HB.out.2.1 x).1 (by rw [HY.out.1]; exact List.getElem_mem htl)
                          rw [idx, if_pos hmem]
                          obtain ⟨ix, hixe⟩ : ∃ ix, ix = R2.idxOf x := ⟨_, rfl⟩
                          rw [← hixe]
                          have HE : Hid (Below wr.heap.size wr wi2) := hb2
                          clear hb2 hixe hmem
                          go_wp2_with fail
                          go_roundg (R1.length - (t + 1))
                          case measure => have := HY.out.2.2; omega
                          case rel => exact ⟨t + 1, by omega, by go_num, rfl, HY.out.2.1.trans (HE.out.mono HY.out.2.1.size)⟩
                      · have HY : Hid (Below wb.heap.size wb wr) := hbel
                        have hti : ¬ (t : Int) < R1.length := by omega
                        clear hbel hgt
                        go_wp2_with fail
                        go_loopg [28] ls.length (fun j i wi => ∃ t : Nat, t ≤ ls.length ∧ i = .int .i64 t ∧ j = ls.length - t ∧ Below wb.heap.size wb wi)
                        case atStart => exact ⟨0, Nat.zero_le _, rfl, rfl, HY.out⟩
                        case round =>
                          obtain ⟨t, ht, rfl, hgt, hbel⟩ := hrel
                          by_cases htl : t < ls.length
                          · obtain ⟨va, vb, rs2, k1, ⟨ca, ua, rfl, k2, k2'⟩, k3, ⟨cb, ub, rfl, k4, k4'⟩, k5⟩ := HB.out.2.2.2.2.1 t htl
                            rw [HB.out.1] at k3 k4
                            have q0 := cell_later hbel k1
                            have q1 := cell_later hbel k3
                            obtain ⟨s1, s2⟩ := bits_same HB.out.2.1 HB.out.2.2.2.2.2.2.2 k2' k4' k5
                            have hb0 : Below wb.heap.size wb wr.drew := hbel.drew
                            have hsg := sameGrants_calls wr.drew (some ⟨r1, 0, none⟩) (some ⟨r2, 0, none⟩) R1.length R1.length ca cb ((R1.length + 63) / 64) ((R1.length + 63) / 64) R1 R2 ua ub (HB.out.2.2.2.1.later hb0) (HB.out.2.2.1.later hb0) (k2.later hb0) (k4.later hb0) (by omega) (by have := HB.out.1; omega) (by omega) (by omega) s1 s2
                            rw [HB.out.1] at hsg
                            have HSG : Hid (Calls Try.prog 20 #[.slice (some ⟨r1, 0, none⟩) R1.length R1.length, .slice (some ⟨ca, 0, none⟩) ((R1.length + 63) / 64) ((R1.length + 63) / 64), .slice (some ⟨r2, 0, none⟩) R1.length R1.length, .slice (some ⟨cb, 0, none⟩) ((R1.length + 63) / 64) ((R1.length + 63) / 64)] wr.drew fun e w' => e = .returned (.bool true) ∧ Below wr.drew.heap.size wr.drew w') := hsg
                            have HK : Hid (∀ wy, Below wr.heap.size wr wy → wy.cell? ⟨l1, t, none⟩ = some (.slice (some ⟨ca, 0, none⟩) ((R1.length + 63) / 64) ((R1.length + 63) / 64)) ∧ wy.cell? ⟨l2, t, none⟩ = some (.slice (some ⟨cb, 0, none⟩) ((R1.length + 63) / 64) ((R1.length + 63) / 64))) := fun wy hb => ⟨cell_later hb q0, cell_later hb q1⟩
                            have HY2 : Hid (Below wb.heap.size wb wr ∧ gk = ls.length - t) := ⟨hbel, hgt⟩
                            have hti : (t : Int) < ls.length := by omega
                            clear hbel hgt k1 k2 k2' k3 k4 k4' k5 s1 s2 hb0 hsg
                            go_wp2_with fail
                            go_region_held3 (fun wy => wy.cell? ⟨l1, t, none⟩ = some (.slice (some ⟨ca, 0, none⟩) ((R1.length + 63) / 64) ((R1.length + 63) / 64)) ∧ wy.cell? ⟨l2, t, none⟩ = some (.slice (some ⟨cb, 0, none⟩) ((R1.length + 63) / 64) ((R1.length + 63) / 64)))
                              (first | (exact HK.out _ ((Below.refl _ _).drew.trans hbs)) | (go_keep; done))
                              (first | (go_at_call 20; refine HSG.out.mono ?_; rintro e ws2 ⟨rfl, hbs⟩))
                            have HE : Hid (Below wr.heap.size wr ws2) := (Below.refl _ _).drew.trans hbs
                            clear hbs
                            go_wp2_with fail
                            go_roundg (ls.length - (t + 1))
                            case measure => have := HY2.out.2; omega
                            case rel => exact ⟨t + 1, by omega, by go_num, rfl, HY2.out.1.trans (HE.out.mono HY2.out.1.size)⟩
                          · have HY : Hid (Below wb.heap.size wb wr) := hbel
                            have hti : ¬ (t : Int) < ls.length := by omega
                            clear hbel hgt
                            go_wp2_with fail
                            go_loopg [29] us.length (fun j i wi => ∃ t : Nat, t ≤ us.length ∧ i = .int .i64 t ∧ j = us.length - t ∧ Below wb.heap.size wb wi)
                            case atStart => exact ⟨0, Nat.zero_le _, rfl, rfl, HY.out⟩
                            case round =>
                              obtain ⟨t, ht, rfl, hgt, hbel⟩ := hrel
                              by_cases htl : t < us.length
                              · obtain ⟨va, vb, rs2, k1, ⟨ca, ua, rfl, k2, k2'⟩, k3, ⟨cb, ub, rfl, k4, k4'⟩, k5⟩ := HB.out.2.2.2.2.2.1 t htl
                                rw [HB.out.1] at k3 k4
                                have q0 := cell_later hbel k1
                                have q1 := cell_later hbel k3
                                obtain ⟨s1, s2⟩ := bits_same HB.out.2.1 HB.out.2.2.2.2.2.2.2 k2' k4' k5
                                have hb0 : Below wb.heap.size wb wr.drew := hbel.drew
                                have hsg := sameGrants_calls wr.drew (some ⟨r1, 0, none⟩) (some ⟨r2, 0, none⟩) R1.length R1.length ca cb ((R1.length + 63) / 64) ((R1.length + 63) / 64) R1 R2 ua ub (HB.out.2.2.2.1.later hb0) (HB.out.2.2.1.later hb0) (k2.later hb0) (k4.later hb0) (by omega) (by have := HB.out.1; omega) (by omega) (by omega) s1 s2
                                rw [HB.out.1] at hsg
                                have HSG : Hid (Calls Try.prog 20 #[.slice (some ⟨r1, 0, none⟩) R1.length R1.length, .slice (some ⟨ca, 0, none⟩) ((R1.length + 63) / 64) ((R1.length + 63) / 64), .slice (some ⟨r2, 0, none⟩) R1.length R1.length, .slice (some ⟨cb, 0, none⟩) ((R1.length + 63) / 64) ((R1.length + 63) / 64)] wr.drew fun e w' => e = .returned (.bool true) ∧ Below wr.drew.heap.size wr.drew w') := hsg
                                have HK : Hid (∀ wy, Below wr.heap.size wr wy → wy.cell? ⟨u1, t, none⟩ = some (.slice (some ⟨ca, 0, none⟩) ((R1.length + 63) / 64) ((R1.length + 63) / 64)) ∧ wy.cell? ⟨u2, t, none⟩ = some (.slice (some ⟨cb, 0, none⟩) ((R1.length + 63) / 64) ((R1.length + 63) / 64))) := fun wy hb => ⟨cell_later hb q0, cell_later hb q1⟩
                                have HY2 : Hid (Below wb.heap.size wb wr ∧ gk = us.length - t) := ⟨hbel, hgt⟩
                                have hti : (t : Int) < us.length := by omega
                                clear hbel hgt k1 k2 k2' k3 k4 k4' k5 s1 s2 hb0 hsg
                                go_wp2_with fail
                                go_region_held3 (fun wy => wy.cell? ⟨u1, t, none⟩ = some (.slice (some ⟨ca, 0, none⟩) ((R1.length + 63) / 64) ((R1.length + 63) / 64)) ∧ wy.cell? ⟨u2, t, none⟩ = some (.slice (some ⟨cb, 0, none⟩) ((R1.length + 63) / 64) ((R1.length + 63) / 64)))
                                  (first | (exact HK.out _ ((Below.refl _ _).drew.trans hbs)) | (go_keep; done))
                                  (first | (go_at_call 20; refine HSG.out.mono ?_; rintro e ws2 ⟨rfl, hbs⟩))
                                have HE : Hid (Below wr.heap.size wr ws2) := (Below.refl _ _).drew.trans hbs
                                clear hbs
                                go_wp2_with fail
                                go_roundg (us.length - (t + 1))
                                case measure => have := HY2.out.2; omega
                                case rel => exact ⟨t + 1, by omega, by go_num, rfl, HY2.out.1.trans (HE.out.mono HY2.out.1.size)⟩
                              · have HY : Hid (Below wb.heap.size wb wr) := hbel
                                have hti : ¬ (t : Int) < us.length := by omega
                                clear hbel hgt
                                go_wp2_with fail
                                go_ret
                                exact ⟨rfl, HB.out.2.2.2.2.2.2.1.trans (HY.out.mono HB.out.2.2.2.2.2.2.1.size)⟩
end Go.Proofs.Qxb6612720a
