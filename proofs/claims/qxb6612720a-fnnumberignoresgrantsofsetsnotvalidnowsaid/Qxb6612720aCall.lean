import Derived.Test.Qxb6612720aZz
import Derived.Test.Qxb6612720aCpv
namespace Go.Proofs.Qxb6612720a
open Go.RowKit
set_option maxRecDepth 100000

theorem cell_set {w : World} {bb o b j : Nat} {v u : Value} (hc : w.cell? ⟨bb, o, none⟩ = some v) (hne : bb ≠ b) : (w.setCell ⟨b, j, none⟩ u).cell? ⟨bb, o, none⟩ = some v := by
  rw [← hc]
  simp only [World.cell?, Below.heap_setCell w ⟨b, j, none⟩ u bb hne]

theorem zin_of {w wq wp wo : World} {ws : List (Int × Int)} {ls : List (ByteArray × ByteArray × List (Int × Int))} {us : List (ByteArray × List (Int × Int))}
    (h1 : CpV wq w.heap.size 2 ws.length (fun i => .int .i64 (ws.getD i (0, 0)).1) ws.length) (h2 : CpV wq (w.heap.size + 1) 2 ws.length (fun i => .int .i64 (ws.getD i (0, 0)).2) ws.length) (h3 : C4 wq wp ls ls.length) (h4 : C3 wp wo us us.length) (hb : Below w.heap.size w wp) :
    ZIn wo w.heap.size (w.heap.size + 1) wq.heap.size (wq.heap.size + 1) (wq.heap.size + 1 + 1) (wq.heap.size + 1 + 1 + 1) wp.heap.size (wp.heap.size + 1) (wp.heap.size + 1 + 1) ws ls us ∧ Below w.heap.size w wo := by
  have hbo := h4.bel
  refine ⟨⟨fun i hi => ?_, fun i hi => ?_, fun i hi => ?_, fun i hi => ?_, fun i hi => ?_, fun i hi => ?_, fun i hi => ?_, fun i hi => ?_, fun i hi => ?_⟩, hb.trans (hbo.mono hb.size)⟩
  · exact cell_later hbo (cell_later h3.bel (h1.at hi hi))
  · exact cell_later hbo (cell_later h3.bel (h2.at hi hi))
  · have := cell_later hbo (h3.a.at hi hi)
    simpa [List.getD, hi] using this
  · have := cell_later hbo (h3.b.at hi hi)
    simpa [List.getD, hi] using this
  · obtain ⟨ra, x1, x2⟩ := h3.c.at hi hi
    have y1 := cell_later hbo x1
    have y2 := x2.later hbo
    simp [List.getD, hi] at y1 y2
    exact ⟨ra, y1, y2⟩
  · obtain ⟨ra, x1, x2⟩ := h3.d.at hi hi
    have y1 := cell_later hbo x1
    have y2 := x2.later hbo
    simp [List.getD, hi] at y1 y2
    exact ⟨ra, y1, y2⟩
  · have := h4.a.at hi hi
    simpa [List.getD, hi] using this
  · obtain ⟨ra, x1, x2⟩ := h4.c.at hi hi
    simp [List.getD, hi] at x1 x2
    exact ⟨ra, x1, x2⟩
  · obtain ⟨ra, x1, x2⟩ := h4.d.at hi hi
    simp [List.getD, hi] at x1 x2
    exact ⟨ra, x1, x2⟩

set_option maxHeartbeats 8000000 in
theorem call_calls (w : World) (aS aL aU : Option Addr) (cS cL cU : Nat) (ws : List (Int × Int)) (ls : List (ByteArray × ByteArray × List (Int × Int))) (us : List (ByteArray × List (Int × Int))) (now : Int)
    (hS : WinIn w aS ws) (hL : ListedIn w aL ls) (hU : UnlistedIn w aU us) (hG : Good ws ls us) :
    Calls Try.prog 13 #[.slice aS ws.length cS, .slice aL ls.length cL, .slice aU us.length cU, .int .i64 now] w fun e w' => ∃ bR bL bU n, e = .returned (.tuple #[.slice (some ⟨bR, 0, none⟩) n n, .slice (some ⟨bL, 0, none⟩) ls.length ls.length, .slice (some ⟨bU, 0, none⟩) us.length us.length]) ∧ COut w w' bR bL bU n ws now ls us := by
  have HI : Hid (WinIn w aS ws ∧ ListedIn w aL ls ∧ UnlistedIn w aU us ∧ Good ws ls us) := ⟨hS, hL, hU, hG⟩
  have lws := hG.s
  have lls := hG.l
  have lus := hG.u
  clear hS hL hU hG
  obtain ⟨i2, hi2, hz20, hz21, hz22⟩ := info_parts info2
  obtain ⟨i9, hi9, hz90, hz91, hz92⟩ := info_parts info9
  obtain ⟨i8, hi8, hz80, hz81, hz82⟩ := info_parts info87
  obtain ⟨i6, hi6, hz60, hz61, hz62⟩ := info_parts info60
  go_enter Try.func13, Try.ntmps13
  go_wp2_with (at_make; refine wpList_make_cap _ rfl _ _ 85 rfl 2 i2 (.int .i64 0) 1 Try.underlying85 hi2 hz20 hz21 .i64 .i64 _ _ ws.length ws.length rfl rfl (by simp) (by simp) (Nat.le_refl _) (by rw [hz22]; omega) (by unfold maxLen; omega) ?_)
  go_loopg [13] ws.length (fun j i wi => ∃ k : Nat, k ≤ ws.length ∧ i = .int .i64 k ∧ j = ws.length - k ∧ CpV wi w.heap.size 2 ws.length (fun i => .int .i64 (ws.getD i (0, 0)).1) k ∧ CpV wi (w.heap.size + 1) 2 ws.length (fun i => .int .i64 (ws.getD i (0, 0)).2) k ∧ Below w.heap.size w wi)
  case atStart =>
    have h0 := (CpV.new w (.int .i64 0) 2 ws.length (fun i => .int .i64 (ws.getD i (0, 0)).1)).later ((Below.refl _ _).alloc (Nat.le_refl _) (.cells (zrow (.int .i64 0) ws.length) 2))
    rw [Nat.mul_one] at h0
    refine ⟨0, Nat.zero_le _, rfl, rfl, h0, ?_, ((Below.refl _ _).alloc (Nat.le_refl _) _).alloc (by simp) _⟩
    have h1 := CpV.new (w.alloc (.cells (zrow (.int .i64 0) ws.length) 2)) (.int .i64 0) 2 ws.length (fun i => .int .i64 (ws.getD i (0, 0)).2)
    simpa using h1
  case round =>
    obtain ⟨k, hk, rfl, hgk, hc1, hc2, hbel⟩ := hrel
    by_cases hlt : k < ws.length
    · obtain ⟨b, off, rfl, x0, x1⟩ := HI.out.1.at k hlt
      have y0 := cell_later hbel x0
      have y1 := cell_later hbel x1
      have lS := World.block_lt_of_cell? w ⟨b, off + k * 2, none⟩ x0
      simp only at lS
      obtain ⟨nb, hnb⟩ : ∃ nb, nb = (ws.getD k (0, 0)).1 := ⟨_, rfl⟩
      obtain ⟨na, hna⟩ : ∃ na, na = (ws.getD k (0, 0)).2 := ⟨_, rfl⟩
      rw [← hnb] at y0
      rw [← hna] at y1
      obtain ⟨⟨v0, q0⟩, f0⟩ := hc1.free hlt
      obtain ⟨⟨v1, q1⟩, f1⟩ := hc2.free hlt
      have HC : Hid (CpV wr w.heap.size 2 ws.length (fun i => .int .i64 (ws.getD i (0, 0)).1) k ∧ CpV wr (w.heap.size + 1) 2 ws.length (fun i => .int .i64 (ws.getD i (0, 0)).2) k ∧ Below w.heap.size w wr ∧ gk = ws.length - k ∧ nb = (ws.getD k (0, 0)).1 ∧ na = (ws.getD k (0, 0)).2) := ⟨hc1, hc2, hbel, hgk, hnb, hna⟩
      have hki : (k : Int) < ws.length := by omega
      clear hc1 hc2 hbel hgk hnb hna x0 x1
      go_wp2_with fail
      go_roundg (ws.length - (k + 1))
      case measure => have := HC.out.2.2.2.1; omega
      case rel =>
        obtain ⟨d1, d2, d3, _, d5, d6⟩ := HC.out
        exact ⟨k + 1, by omega, by go_num, rfl, (d1.step hlt (by rw [d5])).other (by omega) _, (d2.other (by omega) _).step hlt (by rw [d6]), (d3.setCell (Nat.le_refl _) _).setCell (by show w.heap.size ≤ w.heap.size + 1; omega) _⟩
    · have ek : k = ws.length := by omega
      subst ek
      have HC : Hid (CpV wr w.heap.size 2 ws.length (fun i => .int .i64 (ws.getD i (0, 0)).1) ws.length ∧ CpV wr (w.heap.size + 1) 2 ws.length (fun i => .int .i64 (ws.getD i (0, 0)).2) ws.length ∧ Below w.heap.size w wr) := ⟨hc1, hc2, hbel⟩
      clear hc1 hc2 hbel hgk
      obtain ⟨wq, hwq⟩ : ∃ wq, wq = wr := ⟨_, rfl⟩
      subst hwq
      go_wp2_with (first
        | (at_make; refine wpList_make_cap _ rfl _ _ 23 rfl 9 i9 (.string ⟨#[]⟩) 1 Try.underlying23 hi9 hz90 hz91 .i64 .i64 _ _ ls.length ls.length rfl rfl (by simp) (by simp) (Nat.le_refl _) (by rw [hz92]; omega) (by unfold maxLen; omega) ?_)
        | (at_make; refine wpList_make_cap _ rfl _ _ 86 rfl 87 i8 (.slice none 0 0) 1 Try.underlying86 hi8 hz80 hz81 .i64 .i64 _ _ ls.length ls.length rfl rfl (by simp) (by simp) (Nat.le_refl _) (by rw [hz82]; omega) (by unfold maxLen; omega) ?_))
      go_loopg [18] ls.length (fun j i wi => ∃ t : Nat, t ≤ ls.length ∧ i = .int .i64 t ∧ j = ls.length - t ∧ C4 wq wi ls t)
      case atStart => exact ⟨0, Nat.zero_le _, rfl, rfl, by have := C4.start wq ls; rw [Nat.mul_one] at this; exact this⟩
      case round =>
        obtain ⟨t, ht, rfl, hgt, hst⟩ := hrel
        by_cases htl : t < ls.length
        · rcases HI.out.2.1 with h0 | ⟨b, off, rfl, hc⟩
          · rw [h0] at htl; simp at htl
          · obtain ⟨x0, x1, ra, rc, x2, hrf⟩ := hc t htl
            have hbw : Below w.heap.size w wr := HC.out.2.2.trans (hst.bel.mono HC.out.2.2.size)
            have y0 := cell_later hbw x0
            have y1 := cell_later hbw x1
            have y2 := cell_later hbw x2
            have lb := World.block_lt_of_cell? w ⟨b, off + t * 3, none⟩ x0
            simp only at lb
            have hwq : w.heap.size ≤ wq.heap.size := HC.out.2.2.size
            have lbq : b < wq.heap.size := by omega
            obtain ⟨A, hA⟩ : ∃ A, A = (ls[t]).1 := ⟨_, rfl⟩
            obtain ⟨B, hB⟩ : ∃ B, B = (ls[t]).2.1 := ⟨_, rfl⟩
            obtain ⟨rs, hrs⟩ : ∃ rs, rs = (ls[t]).2.2 := ⟨_, rfl⟩
            rw [← hA] at y0
            rw [← hB] at y1
            rw [← hrs] at y2 hrf
            have hrl : rs.length ≤ 100000 := by
              have h1 := flat_le ls (·.2.2) (t + 1)
              rw [flat_next htl, List.length_append, ← hrs] at h1
              have := HI.out.2.2.2.lt
              omega
            obtain ⟨⟨v0, q0⟩, f0⟩ := hst.a.free htl
            obtain ⟨⟨v1, q1⟩, f1⟩ := hst.b.free htl
            obtain ⟨⟨v2, q2⟩, f2⟩ := hst.c.free htl
            obtain ⟨⟨v3, q3⟩, f3⟩ := hst.d.free htl
            have hsz := hst.sz
            have HX : Hid (C4 wq wr ls t ∧ gk = ls.length - t ∧ A = (ls[t]).1 ∧ rs = (ls[t]).2.2 ∧ RefsIn w ra rs ∧ Below w.heap.size w wr ∧ B = (ls[t]).2.1) := ⟨hst, hgt, hA, hrs, hrf, hbw, hB⟩
            have hti : (t : Int) < ls.length := by omega
            have s1 : ((wr.setCell ⟨wq.heap.size, t, none⟩ (.string A)).setCell ⟨wq.heap.size + 1, t, none⟩ (.string B)).heap.size = wr.heap.size := by simp [World.setCell]
            have hb1 : Below w.heap.size w ((wr.setCell ⟨wq.heap.size, t, none⟩ (.string A)).setCell ⟨wq.heap.size + 1, t, none⟩ (.string B)) := (hbw.setCell hwq _).setCell (by show w.heap.size ≤ wq.heap.size + 1; omega) _
            have r2 : ((wr.setCell ⟨wq.heap.size, t, none⟩ (.string A)).setCell ⟨wq.heap.size + 1, t, none⟩ (.string B)).cell? ⟨b, off + t * 3 + 2, none⟩ = some (.slice ra rs.length rc) := cell_set (cell_set y2 (by omega)) (by omega)
            have r3 : ((wr.setCell ⟨wq.heap.size, t, none⟩ (.string A)).setCell ⟨wq.heap.size + 1, t, none⟩ (.string B)).cell? ⟨wq.heap.size + 1 + 1, t, none⟩ = some v2 := cell_set (cell_set q2 (by omega)) (by omega)
            have r4 : ((wr.setCell ⟨wq.heap.size, t, none⟩ (.string A)).setCell ⟨wq.heap.size + 1, t, none⟩ (.string B)).cell? ⟨wq.heap.size + 1 + 1 + 1, t, none⟩ = some v3 := cell_set (cell_set q3 (by omega)) (by omega)
            have g3 : ((wr.setCell ⟨wq.heap.size, t, none⟩ (.string A)).setCell ⟨wq.heap.size + 1, t, none⟩ (.string B)).frozen? ⟨wq.heap.size + 1 + 1, t, none⟩ = false := by simpa using f2
            have g4 : ((wr.setCell ⟨wq.heap.size, t, none⟩ (.string A)).setCell ⟨wq.heap.size + 1, t, none⟩ (.string B)).frozen? ⟨wq.heap.size + 1 + 1 + 1, t, none⟩ = false := by simpa using f3
            have H1 : Hid (Below w.heap.size w ((wr.setCell ⟨wq.heap.size, t, none⟩ (.string A)).setCell ⟨wq.heap.size + 1, t, none⟩ (.string B)) ∧ ((wr.setCell ⟨wq.heap.size, t, none⟩ (.string A)).setCell ⟨wq.heap.size + 1, t, none⟩ (.string B)).heap.size = wr.heap.size ∧ ((wr.setCell ⟨wq.heap.size, t, none⟩ (.string A)).setCell ⟨wq.heap.size + 1, t, none⟩ (.string B)).cell? ⟨b, off + t * 3 + 2, none⟩ = some (.slice ra rs.length rc) ∧ ((wr.setCell ⟨wq.heap.size, t, none⟩ (.string A)).setCell ⟨wq.heap.size + 1, t, none⟩ (.string B)).cell? ⟨wq.heap.size + 1 + 1, t, none⟩ = some v2 ∧ ((wr.setCell ⟨wq.heap.size, t, none⟩ (.string A)).setCell ⟨wq.heap.size + 1, t, none⟩ (.string B)).cell? ⟨wq.heap.size + 1 + 1 + 1, t, none⟩ = some v3 ∧ ((wr.setCell ⟨wq.heap.size, t, none⟩ (.string A)).setCell ⟨wq.heap.size + 1, t, none⟩ (.string B)).frozen? ⟨wq.heap.size + 1 + 1, t, none⟩ = false ∧ ((wr.setCell ⟨wq.heap.size, t, none⟩ (.string A)).setCell ⟨wq.heap.size + 1, t, none⟩ (.string B)).frozen? ⟨wq.heap.size + 1 + 1 + 1, t, none⟩ = false) := ⟨hb1, s1, r2, r3, r4, g3, g4⟩
            clear hst hgt hA hrs hrf hbw x0 x2 hc s1 hb1 r2 r3 r4 g3 g4 hB x1
            go_wp2_with fail
            refine (refSets_calls _ ra rc rs (HX.out.2.2.2.2.1.later H1.out.1) (by omega)).mono ?_
            rintro e w2 ⟨rfl, hi2, hb2⟩
            obtain ⟨hb1, s1, r2, r3, r4, g3, g4⟩ := H1.out
            have t2 := cell_later hb2 r2
            have t3 := cell_later hb2 r3
            have t4 := cell_later hb2 r4
            have l3 : wq.heap.size + 1 + 1 < ((wr.setCell ⟨wq.heap.size, t, none⟩ (.string A)).setCell ⟨wq.heap.size + 1, t, none⟩ (.string B)).heap.size := by rw [s1]; omega
            have l4 : wq.heap.size + 1 + 1 + 1 < ((wr.setCell ⟨wq.heap.size, t, none⟩ (.string A)).setCell ⟨wq.heap.size + 1, t, none⟩ (.string B)).heap.size := by rw [s1]; omega
            have u3 : w2.frozen? ⟨wq.heap.size + 1 + 1, t, none⟩ = false := (hb2.frozen (p := ⟨wq.heap.size + 1 + 1, t, none⟩) l3).trans g3
            have u4 : w2.frozen? ⟨wq.heap.size + 1 + 1 + 1, t, none⟩ = false := (hb2.frozen (p := ⟨wq.heap.size + 1 + 1 + 1, t, none⟩) l4).trans g4
            have hbw2 : Below w.heap.size w w2 := hb1.trans (hb2.mono hb1.size)
            rw [s1] at hi2 hb2 l3 l4 ⊢
            have hs2 : wr.heap.size ≤ w2.heap.size := by have := hb2.size; rw [s1] at this; exact this
            have s3 : (w2.setCell ⟨wq.heap.size + 1 + 1, t, none⟩ (.slice (some ⟨wr.heap.size, 0, none⟩) rs.length rs.length)).heap.size = w2.heap.size := by simp [World.setCell]
            have hb3 : Below w.heap.size w (w2.setCell ⟨wq.heap.size + 1 + 1, t, none⟩ (.slice (some ⟨wr.heap.size, 0, none⟩) rs.length rs.length)) := hbw2.setCell (by show w.heap.size ≤ wq.heap.size + 1 + 1; omega) _
            have r4b : (w2.setCell ⟨wq.heap.size + 1 + 1, t, none⟩ (.slice (some ⟨wr.heap.size, 0, none⟩) rs.length rs.length)).cell? ⟨wq.heap.size + 1 + 1 + 1, t, none⟩ = some v3 := cell_set t4 (by omega)
            have g4b : (w2.setCell ⟨wq.heap.size + 1 + 1, t, none⟩ (.slice (some ⟨wr.heap.size, 0, none⟩) rs.length rs.length)).frozen? ⟨wq.heap.size + 1 + 1 + 1, t, none⟩ = false := by simpa using u4
            have H2 : Hid (Below wr.heap.size ((wr.setCell ⟨wq.heap.size, t, none⟩ (.string A)).setCell ⟨wq.heap.size + 1, t, none⟩ (.string B)) w2 ∧ IntsIn w2 (some ⟨wr.heap.size, 0, none⟩) (rs.map (·.1)) ∧ Below w.heap.size w (w2.setCell ⟨wq.heap.size + 1 + 1, t, none⟩ (.slice (some ⟨wr.heap.size, 0, none⟩) rs.length rs.length)) ∧ (w2.setCell ⟨wq.heap.size + 1 + 1, t, none⟩ (.slice (some ⟨wr.heap.size, 0, none⟩) rs.length rs.length)).heap.size = w2.heap.size ∧ (w2.setCell ⟨wq.heap.size + 1 + 1, t, none⟩ (.slice (some ⟨wr.heap.size, 0, none⟩) rs.length rs.length)).cell? ⟨wq.heap.size + 1 + 1 + 1, t, none⟩ = some v3 ∧ (w2.setCell ⟨wq.heap.size + 1 + 1, t, none⟩ (.slice (some ⟨wr.heap.size, 0, none⟩) rs.length rs.length)).frozen? ⟨wq.heap.size + 1 + 1 + 1, t, none⟩ = false) := ⟨hb2, hi2, hb3, s3, r4b, g4b⟩
            clear hb1 s1 r2 r3 r4 g3 g4 t4 u4 hi2 hb2 hbw2 s3 hb3 r4b g4b
            go_wp2_with fail
            refine (refGrants_calls _ ra rc rs (HX.out.2.2.2.2.1.later H2.out.2.2.1) (by omega)).mono ?_
            rintro e w4 ⟨rfl, hi4, hb4⟩
            obtain ⟨hb2, hi2, hb3, s3, r4b, g4b⟩ := H2.out
            have t4 := cell_later hb4 r4b
            have u4 : w4.frozen? ⟨wq.heap.size + 1 + 1 + 1, t, none⟩ = false := (hb4.frozen (p := ⟨wq.heap.size + 1 + 1 + 1, t, none⟩) (by show wq.heap.size + 1 + 1 + 1 < _; rw [s3]; omega)).trans g4b
            rw [s3] at hi4 hb4 ⊢
            have H4 : Hid (Below w2.heap.size (w2.setCell ⟨wq.heap.size + 1 + 1, t, none⟩ (.slice (some ⟨wr.heap.size, 0, none⟩) rs.length rs.length)) w4 ∧ IntsIn w4 (some ⟨w2.heap.size, 0, none⟩) (rs.map (·.2))) := ⟨hb4, hi4⟩
            clear hb2 hi2 hb3 s3 r4b g4b hi4 hb4
            go_wp2_with fail
            go_roundg (ls.length - (t + 1))
            case measure => have := HX.out.2.1; omega
            case rel => exact ⟨t + 1, by omega, by go_num, rfl, HX.out.1.step htl HX.out.2.2.1 HX.out.2.2.2.2.2.2 HX.out.2.2.2.1 H2.out.1 H2.out.2.1 (Nat.le_refl _) H4.out.1 H4.out.2 (Nat.le_refl _)⟩
        · have et : t = ls.length := by omega
          subst et
          obtain ⟨wp, hwp⟩ : ∃ wp, wp = wr := ⟨_, rfl⟩
          subst hwp
          have HP : Hid (C4 wq wp ls ls.length ∧ Below w.heap.size w wp) := ⟨hst, HC.out.2.2.trans (hst.bel.mono HC.out.2.2.size)⟩
          have hpq : wq.heap.size + 4 ≤ wp.heap.size := hst.sz
          clear hst hgt
          go_wp2_with (first
            | (at_make; refine wpList_make_cap _ rfl _ _ 23 rfl 9 i9 (.string ⟨#[]⟩) 1 Try.underlying23 hi9 hz90 hz91 .i64 .i64 _ _ us.length us.length rfl rfl (by simp) (by simp) (Nat.le_refl _) (by rw [hz92]; omega) (by unfold maxLen; omega) ?_)
            | (at_make; refine wpList_make_cap _ rfl _ _ 86 rfl 87 i8 (.slice none 0 0) 1 Try.underlying86 hi8 hz80 hz81 .i64 .i64 _ _ us.length us.length rfl rfl (by simp) (by simp) (Nat.le_refl _) (by rw [hz82]; omega) (by unfold maxLen; omega) ?_))
          go_loopg [22] us.length (fun j i wi => ∃ t : Nat, t ≤ us.length ∧ i = .int .i64 t ∧ j = us.length - t ∧ C3 wp wi us t)
          case atStart => exact ⟨0, Nat.zero_le _, rfl, rfl, by have := C3.start wp us; rw [Nat.mul_one] at this; exact this⟩
          case round =>
            obtain ⟨t, ht, rfl, hgt, hst⟩ := hrel
            by_cases htl : t < us.length
            · rcases HI.out.2.2.1 with h0 | ⟨b, off, rfl, hc⟩
              · rw [h0] at htl; simp at htl
              · obtain ⟨x0, ra, rc, x2, hrf⟩ := hc t htl
                have hbw : Below w.heap.size w wr := HP.out.2.trans (hst.bel.mono HP.out.2.size)
                have y0 := cell_later hbw x0
                have y2 := cell_later hbw x2
                have lb := World.block_lt_of_cell? w ⟨b, off + t * 2, none⟩ x0
                simp only at lb
                have hwq : w.heap.size ≤ wp.heap.size := HP.out.2.size
                have lbq : b < wp.heap.size := by omega
                obtain ⟨A, hA⟩ : ∃ A, A = (us[t]).1 := ⟨_, rfl⟩
                obtain ⟨rs, hrs⟩ : ∃ rs, rs = (us[t]).2 := ⟨_, rfl⟩
                rw [← hA] at y0
                rw [← hrs] at y2 hrf
                have hrl : rs.length ≤ 100000 := by
                  have h1 := flat_le us (·.2) (t + 1)
                  rw [flat_next htl, List.length_append, ← hrs] at h1
                  have := HI.out.2.2.2.ut
                  omega
                obtain ⟨⟨v0, q0⟩, f0⟩ := hst.a.free htl
                obtain ⟨⟨v2, q2⟩, f2⟩ := hst.c.free htl
                obtain ⟨⟨v3, q3⟩, f3⟩ := hst.d.free htl
                have hsz := hst.sz
                have HX : Hid (C3 wp wr us t ∧ gk = us.length - t ∧ A = (us[t]).1 ∧ rs = (us[t]).2 ∧ RefsIn w ra rs ∧ Below w.heap.size w wr) := ⟨hst, hgt, hA, hrs, hrf, hbw⟩
                have hti : (t : Int) < us.length := by omega
                have s1 : (wr.setCell ⟨wp.heap.size, t, none⟩ (.string A)).heap.size = wr.heap.size := by simp [World.setCell]
                have hb1 : Below w.heap.size w (wr.setCell ⟨wp.heap.size, t, none⟩ (.string A)) := hbw.setCell hwq _
                have r2 : (wr.setCell ⟨wp.heap.size, t, none⟩ (.string A)).cell? ⟨b, off + t * 2 + 1, none⟩ = some (.slice ra rs.length rc) := cell_set y2 (by omega)
                have r3 : (wr.setCell ⟨wp.heap.size, t, none⟩ (.string A)).cell? ⟨wp.heap.size + 1, t, none⟩ = some v2 := cell_set q2 (by omega)
                have r4 : (wr.setCell ⟨wp.heap.size, t, none⟩ (.string A)).cell? ⟨wp.heap.size + 1 + 1, t, none⟩ = some v3 := cell_set q3 (by omega)
                have g3 : (wr.setCell ⟨wp.heap.size, t, none⟩ (.string A)).frozen? ⟨wp.heap.size + 1, t, none⟩ = false := by simpa using f2
                have g4 : (wr.setCell ⟨wp.heap.size, t, none⟩ (.string A)).frozen? ⟨wp.heap.size + 1 + 1, t, none⟩ = false := by simpa using f3
                have H1 : Hid (Below w.heap.size w (wr.setCell ⟨wp.heap.size, t, none⟩ (.string A)) ∧ (wr.setCell ⟨wp.heap.size, t, none⟩ (.string A)).heap.size = wr.heap.size ∧ (wr.setCell ⟨wp.heap.size, t, none⟩ (.string A)).cell? ⟨b, off + t * 2 + 1, none⟩ = some (.slice ra rs.length rc) ∧ (wr.setCell ⟨wp.heap.size, t, none⟩ (.string A)).cell? ⟨wp.heap.size + 1, t, none⟩ = some v2 ∧ (wr.setCell ⟨wp.heap.size, t, none⟩ (.string A)).cell? ⟨wp.heap.size + 1 + 1, t, none⟩ = some v3 ∧ (wr.setCell ⟨wp.heap.size, t, none⟩ (.string A)).frozen? ⟨wp.heap.size + 1, t, none⟩ = false ∧ (wr.setCell ⟨wp.heap.size, t, none⟩ (.string A)).frozen? ⟨wp.heap.size + 1 + 1, t, none⟩ = false) := ⟨hb1, s1, r2, r3, r4, g3, g4⟩
                clear hst hgt hA hrs hrf hbw x0 x2 hc s1 hb1 r2 r3 r4 g3 g4
                go_wp2_with fail
                refine (refSets_calls _ ra rc rs (HX.out.2.2.2.2.1.later H1.out.1) (by omega)).mono ?_
                rintro e w2 ⟨rfl, hi2, hb2⟩
                obtain ⟨hb1, s1, r2, r3, r4, g3, g4⟩ := H1.out
                have t2 := cell_later hb2 r2
                have t3 := cell_later hb2 r3
                have t4 := cell_later hb2 r4
                have l3 : wp.heap.size + 1 < (wr.setCell ⟨wp.heap.size, t, none⟩ (.string A)).heap.size := by rw [s1]; omega
                have l4 : wp.heap.size + 1 + 1 < (wr.setCell ⟨wp.heap.size, t, none⟩ (.string A)).heap.size := by rw [s1]; omega
                have u3 : w2.frozen? ⟨wp.heap.size + 1, t, none⟩ = false := (hb2.frozen (p := ⟨wp.heap.size + 1, t, none⟩) l3).trans g3
                have u4 : w2.frozen? ⟨wp.heap.size + 1 + 1, t, none⟩ = false := (hb2.frozen (p := ⟨wp.heap.size + 1 + 1, t, none⟩) l4).trans g4
                have hbw2 : Below w.heap.size w w2 := hb1.trans (hb2.mono hb1.size)
                rw [s1] at hi2 hb2 l3 l4 ⊢
                have hs2 : wr.heap.size ≤ w2.heap.size := by have := hb2.size; rw [s1] at this; exact this
                have s3 : (w2.setCell ⟨wp.heap.size + 1, t, none⟩ (.slice (some ⟨wr.heap.size, 0, none⟩) rs.length rs.length)).heap.size = w2.heap.size := by simp [World.setCell]
                have hb3 : Below w.heap.size w (w2.setCell ⟨wp.heap.size + 1, t, none⟩ (.slice (some ⟨wr.heap.size, 0, none⟩) rs.length rs.length)) := hbw2.setCell (by show w.heap.size ≤ wp.heap.size + 1; omega) _
                have r4b : (w2.setCell ⟨wp.heap.size + 1, t, none⟩ (.slice (some ⟨wr.heap.size, 0, none⟩) rs.length rs.length)).cell? ⟨wp.heap.size + 1 + 1, t, none⟩ = some v3 := cell_set t4 (by omega)
                have g4b : (w2.setCell ⟨wp.heap.size + 1, t, none⟩ (.slice (some ⟨wr.heap.size, 0, none⟩) rs.length rs.length)).frozen? ⟨wp.heap.size + 1 + 1, t, none⟩ = false := by simpa using u4
                have H2 : Hid (Below wr.heap.size (wr.setCell ⟨wp.heap.size, t, none⟩ (.string A)) w2 ∧ IntsIn w2 (some ⟨wr.heap.size, 0, none⟩) (rs.map (·.1)) ∧ Below w.heap.size w (w2.setCell ⟨wp.heap.size + 1, t, none⟩ (.slice (some ⟨wr.heap.size, 0, none⟩) rs.length rs.length)) ∧ (w2.setCell ⟨wp.heap.size + 1, t, none⟩ (.slice (some ⟨wr.heap.size, 0, none⟩) rs.length rs.length)).heap.size = w2.heap.size ∧ (w2.setCell ⟨wp.heap.size + 1, t, none⟩ (.slice (some ⟨wr.heap.size, 0, none⟩) rs.length rs.length)).cell? ⟨wp.heap.size + 1 + 1, t, none⟩ = some v3 ∧ (w2.setCell ⟨wp.heap.size + 1, t, none⟩ (.slice (some ⟨wr.heap.size, 0, none⟩) rs.length rs.length)).frozen? ⟨wp.heap.size + 1 + 1, t, none⟩ = false) := ⟨hb2, hi2, hb3, s3, r4b, g4b⟩
                clear hb1 s1 r2 r3 r4 g3 g4 t4 u4 hi2 hb2 hbw2 s3 hb3 r4b g4b
                go_wp2_with fail
                refine (refGrants_calls _ ra rc rs (HX.out.2.2.2.2.1.later H2.out.2.2.1) (by omega)).mono ?_
                rintro e w4 ⟨rfl, hi4, hb4⟩
                obtain ⟨hb2, hi2, hb3, s3, r4b, g4b⟩ := H2.out
                have t4 := cell_later hb4 r4b
                have u4 : w4.frozen? ⟨wp.heap.size + 1 + 1, t, none⟩ = false := (hb4.frozen (p := ⟨wp.heap.size + 1 + 1, t, none⟩) (by show wp.heap.size + 1 + 1 < _; rw [s3]; omega)).trans g4b
                rw [s3] at hi4 hb4 ⊢
                have H4 : Hid (Below w2.heap.size (w2.setCell ⟨wp.heap.size + 1, t, none⟩ (.slice (some ⟨wr.heap.size, 0, none⟩) rs.length rs.length)) w4 ∧ IntsIn w4 (some ⟨w2.heap.size, 0, none⟩) (rs.map (·.2))) := ⟨hb4, hi4⟩
                clear hb2 hi2 hb3 s3 r4b g4b hi4 hb4
                go_wp2_with fail
                go_roundg (us.length - (t + 1))
                case measure => have := HX.out.2.1; omega
                case rel => exact ⟨t + 1, by omega, by go_num, rfl, HX.out.1.step htl HX.out.2.2.1  HX.out.2.2.2.1 H2.out.1 H2.out.2.1 (Nat.le_refl _) H4.out.1 H4.out.2 (Nat.le_refl _)⟩
            · have et : t = us.length := by omega
              subst et
              obtain ⟨wo, hwo⟩ : ∃ wo, wo = wr := ⟨_, rfl⟩
              subst hwo
              have HZ : Hid (ZIn wo w.heap.size (w.heap.size + 1) wq.heap.size (wq.heap.size + 1) (wq.heap.size + 1 + 1) (wq.heap.size + 1 + 1 + 1) wp.heap.size (wp.heap.size + 1) (wp.heap.size + 1 + 1) ws ls us ∧ Below w.heap.size w wo) := zin_of HC.out.1 HC.out.2.1 HP.out.1 hst HP.out.2
              clear hst hgt
              go_wp2_with fail
              refine (zz_calls wo w.heap.size (w.heap.size + 1) wq.heap.size (wq.heap.size + 1) (wq.heap.size + 1 + 1) (wq.heap.size + 1 + 1 + 1) wp.heap.size (wp.heap.size + 1) (wp.heap.size + 1 + 1) ws ls us now HZ.out.1 HI.out.2.2.2).mono ?_
              rintro e w6 ⟨v1, v2, b1, b2, rfl, R, a1, c1, a2, c2, r1, r2, r3, rfl, rfl, r4, r5, r6, r7, r8⟩
              have HR : Hid (R.Nodup ∧ (∀ x, x ∈ R ↔ ((∃ l ∈ ls, x ∈ l.2.2) ∨ (∃ l ∈ us, x ∈ l.2)) ∧ okW ws now x = true) ∧ IntsIn w6 a1 (R.map (·.1)) ∧ IntsIn w6 a2 (R.map (·.2)) ∧ (∀ i (h : i < ls.length), ∃ v, w6.cell? ⟨b1, i, none⟩ = some v ∧ BitOf w6 R (ls[i]).2.2 v) ∧ (∀ i (h : i < us.length), ∃ v, w6.cell? ⟨b2, i, none⟩ = some v ∧ BitOf w6 R (us[i]).2 v) ∧ Below w.heap.size w w6) := ⟨r1, r2, r4, r5, r6, r7, HZ.out.2.trans (r8.mono HZ.out.2.size)⟩
              clear r1 r2 r4 r5 r6 r7 r8
              go_wp2_with (at_make; refine wpList_make_cap _ rfl _ _ 55 rfl 60 i6 (.agg #[.int .i64 0, .int .i64 0]) 2 Try.underlying55 hi6 hz60 hz61 .i64 .i64 _ _ R.length R.length rfl rfl (by simp) (by simp) (Nat.le_refl _) (by rw [hz62]; omega) (by unfold maxLen; omega) ?_)
              go_loopg [28] R.length (fun j i wi => ∃ t : Nat, t ≤ R.length ∧ i = .int .i64 t ∧ j = R.length - t ∧ CpQ wi w6.heap.size R t ∧ Below w6.heap.size w6 wi)
              case atStart => exact ⟨0, Nat.zero_le _, rfl, rfl, ⟨_, new_block0 _ _ _ rfl, zrow_size _ _, fun i _ h0 => absurd h0 (by omega)⟩, (Below.refl _ _).alloc (Nat.le_refl _) _⟩
              case round =>
                obtain ⟨t, ht, rfl, hgt, hcp, hbel⟩ := hrel
                by_cases htl : t < R.length
                · rcases HR.out.2.2.1 with h0 | ⟨e1, o1, rfl, hc1⟩
                  · rw [List.map_eq_nil_iff] at h0; rw [h0] at htl; simp at htl
                  · rcases HR.out.2.2.2.1 with h0 | ⟨e2, o2, rfl, hc2⟩
                    · rw [List.map_eq_nil_iff] at h0; rw [h0] at htl; simp at htl
                    · have p1 := hc1 t (by simpa using htl)
                      have p2 := hc2 t (by simpa using htl)
                      rw [List.getElem_map] at p1 p2
                      have y0 := cell_later hbel p1
                      have y1 := cell_later hbel p2
                      have l1 := World.block_lt_of_cell? w6 ⟨e1, o1 + t, none⟩ p1
                      have l2 := World.block_lt_of_cell? w6 ⟨e2, o2 + t, none⟩ p2
                      simp only at l1 l2
                      obtain ⟨x, hx⟩ : ∃ x, x = R[t] := ⟨_, rfl⟩
                      rw [← hx] at y0 y1
                      have HX : Hid (CpQ wr w6.heap.size R t ∧ Below w6.heap.size w6 wr ∧ gk = R.length - t ∧ x = R[t]) := ⟨hcp, hbel, hgt, hx⟩
                      obtain ⟨c, h1, h2, h3⟩ := hcp
                      obtain ⟨z0, hv0⟩ := some_at (c := c) (j := t * 2) (by omega)
                      obtain ⟨z1, hv1⟩ := some_at (c := c) (j := t * 2 + 1) (by omega)
                      have q0 := cell_of_block h1 hv0
                      have q1 := cell_of_block h1 hv1
                      have f0 : wr.frozen? ⟨w6.heap.size, t * 2, none⟩ = false := free_of_block h1
                      have f1 : wr.frozen? ⟨w6.heap.size, t * 2 + 1, none⟩ = false := free_of_block h1
                      have hti : (t : Int) < R.length := by omega
                      clear h1 h2 h3 hv0 hv1 hbel hgt hx p1 p2 hc1 hc2
                      go_wp2_with fail
                      go_region
                      go_wp2_with fail
                      go_roundg (R.length - (t + 1))
                      case measure => have := HX.out.2.2.1; omega
                      case rel =>
                        obtain ⟨d1, d2, _, d4⟩ := HX.out
                        refine ⟨t + 1, by omega, by go_num, rfl, ?_, ((d2.setCell (Nat.le_refl _) _).setCell (Nat.le_refl _) _).drew⟩
                        have := d1.step htl
                        rw [← d4] at this
                        exact this
                · have et : t = R.length := by omega
                  subst et
                  have HX : Hid (CpQ wr w6.heap.size R R.length ∧ Below w6.heap.size w6 wr) := ⟨hcp, hbel⟩
                  have hti : ¬ (R.length : Int) < R.length := by omega
                  clear hcp hbel hgt
                  go_wp2_with fail
                  refine bodyPost_ret (v := .tuple #[.slice (some ⟨w6.heap.size, 0, none⟩) R.length R.length, .slice (some ⟨b1, 0, none⟩) ls.length ls.length, .slice (some ⟨b2, 0, none⟩) us.length us.length]) (by simp [results, Try.results13, go_sem]) rfl ⟨_, _, _, _, rfl, ?_⟩
                  obtain ⟨⟨c, h1, h2, h3⟩, hb⟩ := HX.out
                  obtain ⟨k1, k2, k3, k4, k5, k6, k7⟩ := HR.out
                  refine ⟨R, rfl, k1, k2, r3, Or.inr ⟨w6.heap.size, 0, rfl, fun i hi => ?_⟩, fun i hi => ?_, fun i hi => ?_, k7.trans (hb.mono k7.size)⟩
                  · obtain ⟨z1, z2⟩ := h3 i hi hi
                    rw [Nat.zero_add]
                    exact ⟨cell_of_block h1 z1, cell_of_block h1 z2⟩
                  · obtain ⟨v, z1, z2⟩ := k5 i hi
                    exact ⟨v, cell_later hb z1, z2.later hb⟩
                  · obtain ⟨v, z1, z2⟩ := k6 i hi
                    exact ⟨v, cell_later hb z1, z2.later hb⟩
end Go.Proofs.Qxb6612720a
