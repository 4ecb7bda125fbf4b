import Derived.Test.Qxb6602500aLawNo
namespace Go.Proofs.Qxb6602500a
open Go.RowKit
set_option maxRecDepth 100000

/-- Nothing of the two queues tells them apart. -/
theorem final_eq {L : Nat → Int × Int} {m : WMap} {a b : Nat × Int} {L1 L2 L3 L4 : Nat → Int × Int} {m1 m2 m3 m4 : WMap} (h1 : LoseRel L (look m) a L1 (look m1)) (h2 : LoseRel L1 (look m1) b L2 (look m2)) (h3 : LoseRel L (look m) b L3 (look m3)) (h4 : LoseRel L3 (look m3) a L4 (look m4)) : L2 = L4 ∧ look m2 = look m4 :=
  lose_order_free h1 h2 h3 h4

set_option maxHeartbeats 8000000 in
theorem law_yes (w : World) (size : Nat) (self : Int) (causal : Bool) (a1 a2 : Option Addr) (c1 c2 : Nat) (oA : Nat) (sA : Int) (oB : Nat) (sB : Int) (ls : List (Int × Int)) (ws : List ((Nat × Int) × (Nat × Int))) (hl : InL w a1 ls) (hn1 : a1 = none → ls = []) (hw : InW w a2 (ws.map toW)) (hn2 : a2 = none → ws = [])
    (h1 : ls.length ≤ 65536) (h2 : ws.length ≤ 4096) (h3 : 16 * ls.length + 32 * ws.length ≤ 1048576) (h4 : 1 ≤ size) (h5 : size ≤ 65536) (h6 : ls.length ≤ size) (h7 : oA < size) (h8 : sA ≠ 0) (h9 : oB < size) (h10 : sB ≠ 0) (hwA : wfN (oA, sA)) (hwB : wfN (oB, sB)) (hall : (ws.map toW).all (inG size) = true) (hgp : ∀ p ∈ ws, GoodP ((size + 31) / 32) p) :
    Calls Try.prog 4 #[.int .i64 size, .int .i64 self, .bool causal, .slice a1 ls.length c1, .slice a2 ws.length c2, .int .i64 oA, .int .u64 sA, .int .i64 oB, .int .u64 sB] w fun e w' => e = .returned (.bool true) ∧ Below w.heap.size w w' := by
  have hmf := mOf_facts ws hgp
  have A0 : Aside (InL w a1 ls ∧ InW w a2 (ws.map toW) ∧ (a1 = none → ls = []) ∧ (a2 = none → ws.map toW = []) ∧ (∀ p ∈ ws, GoodP ((size + 31) / 32) p) ∧ GoodK ((size + 31) / 32) (oA, sA) ∧ GoodK ((size + 31) / 32) (oB, sB)) := ⟨hl, hw, hn1, fun e => by rw [hn2 e]; rfl, hgp, ⟨by simp only; omega, hwA, h8⟩, ⟨by simp only; omega, hwB, h10⟩⟩
  have HM : Hid (((mOf ws).map (·.1)).Nodup ∧ total (mOf ws) = ws.length ∧ GoodM ((size + 31) / 32) (mOf ws)) := hmf
  have hnb : (size + 31) / 32 ≤ 1000000 := by omega
  have i1 : (ls.length : Int) ≤ 65536 := by omega
  have i2 : (ws.length : Int) ≤ 4096 := by omega
  have i4 : (1 : Int) ≤ size := by omega
  have i5 : (size : Int) ≤ 65536 := by omega
  have e8 : (sA == 0) = false := by simpa using h8
  have e10 : (sB == 0) = false := by simpa using h10
  have hlw : (ws.map toW).length = ws.length := by simp
  have HLW : Hid ((ws.map toW).length = ws.length) := hlw
  have hgc : Hid (Calls Try.prog 9 #[.int .i64 size, .slice a2 ws.length c2] w fun e w' => e = .returned (.bool true) ∧ w = w') := by
    have := group_calls w a2 c2 size (ws.map toW) hw (by omega)
    rw [hall, hlw] at this
    exact this.mono (fun _ _ h => ⟨h.1, h.2.symm⟩)
  have hcl : Hid (Calls Try.prog 10 #[.slice a1 ls.length c1] w fun e w' => ∃ a' cap', e = .returned (.slice a' ls.length cap') ∧ InL w' a' ls ∧ Below w.heap.size w w') := copyLost_calls w a1 c1 ls hl hn1 (by omega)
  clear hl hw hn1 hn2 hgp hmf hlw hall hwA hwB h8 h10
  go_enter Try.func4, Try.ntmps4
  go_wp2_with fail
  refine (bytes_calls w _ _ _ _ _ _ _ a1 a2 ls.length ws.length c1 c2).mono ?_
  rintro e w' ⟨b, rfl, rfl, hb⟩
  cases b
  · clear hb
    go_wp2
    go_ret
    exact ⟨rfl, Below.refl _ _⟩
  · clear hb
    go_wp2_with fail
    refine hgc.out.mono ?_
    rintro e w' ⟨rfl, rfl⟩
    go_wp2_with fail
    refine hcl.out.mono ?_
    rintro e w1 ⟨b1, d1, rfl, hl1, hb1⟩
    have HC11 : Hid (Calls Try.prog 11 #[.slice a2 ws.length c2] w1 fun e w' => ∃ a' cap', e = .returned (.slice a' ws.length cap') ∧ InW w' a' (ws.map toW) ∧ Below w1.heap.size w1 w') := by
      have := copyWaits_calls w1 a2 c2 (ws.map toW) (A0.out.2.1.below hb1) A0.out.2.2.2.1 (by rw [HLW.out]; omega)
      rw [HLW.out] at this
      exact this
    have A1 : Aside (InL w1 b1 ls ∧ Below w.heap.size w w1) := ⟨hl1, hb1⟩
    clear hl1 hb1 hgc hcl
    go_wp2_with fail
    refine HC11.out.mono ?_
    rintro e w2 ⟨b2, d2, rfl, hw2, hb2⟩
    have A2 : Aside (InL w2 b1 ls ∧ InW w2 b2 (ws.map toW) ∧ Below w.heap.size w w2) := ⟨A1.out.1.below hb2, hw2, A1.out.2.trans (hb2.mono A1.out.2.size)⟩
    clear hw2 hb2 HC11
    have HB1 : Hid (Calls Try.prog 13 #[.int .i64 size, .int .i64 self, .bool causal, .slice b1 ls.length d1, .slice b2 ws.length d2] w2 fun e w' => ∃ q mb ab sub D, e = .returned (.pointer (some ⟨q, 0, none⟩)) ∧ Built w2 q mb ab ((size + 31) / 32) ws.length sub (Lof ls ls.length) D (mOf ws) w') := build_calls w2 size self causal h5 b1 b2 d1 d2 ls ws A2.out.1 A2.out.2.1 (by omega) h2 A0.out.2.2.2.2.1
    go_wp2_with fail
    refine HB1.out.mono ?_
    rintro e w3 ⟨q1, mb1, ab1, sub1, D1, rfl, hB1⟩
    have HB2 : Hid (Calls Try.prog 13 #[.int .i64 size, .int .i64 self, .bool causal, .slice b1 ls.length d1, .slice b2 ws.length d2] w3 fun e w' => ∃ q mb ab sub D, e = .returned (.pointer (some ⟨q, 0, none⟩)) ∧ Built w3 q mb ab ((size + 31) / 32) ws.length sub (Lof ls ls.length) D (mOf ws) w') := build_calls w3 size self causal h5 b1 b2 d1 d2 ls ws (A2.out.1.below hB1.below) (A2.out.2.1.below hB1.below) (by omega) h2 A0.out.2.2.2.2.1
    have A3 : Aside (Built w2 q1 mb1 ab1 ((size + 31) / 32) ws.length sub1 (Lof ls ls.length) D1 (mOf ws) w3) := hB1
    clear hB1 HB1
    go_wp2_with fail
    refine HB2.out.mono ?_
    rintro e w4 ⟨q2, mb2, ab2, sub2, D2, rfl, hB2⟩
    have T4 := Two.built A3.out hB2
    clear hB2 HB2
    obtain ⟨hm1, hm2, hm3⟩ := HM.out
    have HL1 : Hid (Calls Try.prog 14 #[.pointer (some ⟨q1, 0, none⟩), .int .i64 oA, .int .u64 sA] w4 fun e w' => e = .returned (.tuple #[]) ∧ ∃ sub' L' D' m', LSt w4 q1 mb1 ab1 ((size + 31) / 32) ws.length sub1 sub' L' D' m' w' ∧ GoodM ((size + 31) / 32) m' ∧ total m' ≤ total (mOf ws) ∧ LoseRel (Lof ls ls.length) (look (mOf ws)) (oA, sA) L' (look m')) := loseZZ_calls hnb T4.one.lst hm3 (by omega) oA sA A0.out.2.2.2.2.2.1
    have B4 : Aside (Two w2 w4 q1 mb1 ab1 ((size + 31) / 32) ws.length sub1 (Lof ls ls.length) D1 (mOf ws) q2 mb2 ab2 ws.length sub2 (Lof ls ls.length) D2 (mOf ws)) := T4
    clear T4 hm1 hm2 hm3
    go_wp2_with fail
    refine HL1.out.mono ?_
    rintro e w5 ⟨rfl, s5, L5, D5, m5, hl5, hg5, ht5, hr5⟩
    have T5 := B4.out.lose hl5
    have HL2 : Hid (Calls Try.prog 14 #[.pointer (some ⟨q1, 0, none⟩), .int .i64 oB, .int .u64 sB] w5 fun e w' => e = .returned (.tuple #[]) ∧ ∃ sub' L' D' m', LSt w5 q1 mb1 ab1 ((size + 31) / 32) ws.length s5 sub' L' D' m' w' ∧ GoodM ((size + 31) / 32) m' ∧ total m' ≤ total m5 ∧ LoseRel L5 (look m5) (oB, sB) L' (look m')) := loseZZ_calls hnb T5.one.lst hg5 (by have := HM.out.2.1; omega) oB sB A0.out.2.2.2.2.2.2
    have B5 : Aside (Two w2 w5 q1 mb1 ab1 ((size + 31) / 32) ws.length s5 L5 D5 m5 q2 mb2 ab2 ws.length sub2 (Lof ls ls.length) D2 (mOf ws) ∧ LoseRel (Lof ls ls.length) (look (mOf ws)) (oA, sA) L5 (look m5)) := ⟨T5, hr5⟩
    clear T5 hl5 hg5 ht5 hr5 HL1
    go_wp2_with fail
    refine HL2.out.mono ?_
    rintro e w6 ⟨rfl, s6, L6, D6, m6, hl6, hg6, ht6, hr6⟩
    have T6 := B5.out.1.lose hl6
    have HL3 : Hid (Calls Try.prog 14 #[.pointer (some ⟨q2, 0, none⟩), .int .i64 oB, .int .u64 sB] w6 fun e w' => e = .returned (.tuple #[]) ∧ ∃ sub' L' D' m', LSt w6 q2 mb2 ab2 ((size + 31) / 32) ws.length sub2 sub' L' D' m' w' ∧ GoodM ((size + 31) / 32) m' ∧ total m' ≤ total (mOf ws) ∧ LoseRel (Lof ls ls.length) (look (mOf ws)) (oB, sB) L' (look m')) := loseZZ_calls hnb T6.two.lst HM.out.2.2 (by have := HM.out.2.1; omega) oB sB A0.out.2.2.2.2.2.2
    have B6 : Aside (Two w2 w6 q1 mb1 ab1 ((size + 31) / 32) ws.length s6 L6 D6 m6 q2 mb2 ab2 ws.length sub2 (Lof ls ls.length) D2 (mOf ws) ∧ LoseRel L5 (look m5) (oB, sB) L6 (look m6)) := ⟨T6, hr6⟩
    clear T6 hl6 hg6 ht6 hr6 HL2
    go_wp2_with fail
    refine HL3.out.mono ?_
    rintro e w7 ⟨rfl, s7, L7, D7, m7, hl7, hg7, ht7, hr7⟩
    have T7 := B6.out.1.swap.lose hl7
    have HL4 : Hid (Calls Try.prog 14 #[.pointer (some ⟨q2, 0, none⟩), .int .i64 oA, .int .u64 sA] w7 fun e w' => e = .returned (.tuple #[]) ∧ ∃ sub' L' D' m', LSt w7 q2 mb2 ab2 ((size + 31) / 32) ws.length s7 sub' L' D' m' w' ∧ GoodM ((size + 31) / 32) m' ∧ total m' ≤ total m7 ∧ LoseRel L7 (look m7) (oA, sA) L' (look m')) := loseZZ_calls hnb T7.one.lst hg7 (by have := HM.out.2.1; omega) oA sA A0.out.2.2.2.2.2.1
    have B7 : Aside (Two w2 w7 q2 mb2 ab2 ((size + 31) / 32) ws.length s7 L7 D7 m7 q1 mb1 ab1 ws.length s6 L6 D6 m6 ∧ LoseRel (Lof ls ls.length) (look (mOf ws)) (oB, sB) L7 (look m7) ∧ total m7 ≤ total (mOf ws)) := ⟨T7, hr7, ht7⟩
    clear T7 hl7 hg7 ht7 hr7 HL3
    go_wp2_with fail
    refine HL4.out.mono ?_
    rintro e w8 ⟨rfl, s8, L8, D8, m8, hl8, hg8, ht8, hr8⟩
    have T8 := (B7.out.1.lose hl8).swap
    obtain ⟨eL, em⟩ := final_eq B5.out.2 B6.out.2 B7.out.2.1 hr8
    subst eL
    have B8 : Aside (Two w2 w8 q1 mb1 ab1 ((size + 31) / 32) ws.length s6 L6 D6 m6 q2 mb2 ab2 ws.length s8 L6 D8 m8 ∧ look m6 = look m8 ∧ total m8 ≤ 4096) := ⟨T8, em, by have := HM.out.2.1; have := B7.out.2.2; omega⟩
    clear T8 hl8 hg8 ht8 hr8 HL4 em
    clear B4 B5 B6 B7 A3
    go_wp2
    go_loopg [21] size (fun j i wr => ∃ k : Nat, k ≤ size ∧ i = .int .i64 k ∧ j = size - k ∧ Two w2 wr q1 mb1 ab1 ((size + 31) / 32) ws.length s6 L6 D6 m6 q2 mb2 ab2 ws.length s8 L6 D8 m8)
    case atStart => exact ⟨0, Nat.zero_le _, rfl, rfl, B8.out.1⟩
    case round =>
      obtain ⟨k, hk, rfl, hgk, hT⟩ := hrel
      have C : Aside (Two w2 wr q1 mb1 ab1 ((size + 31) / 32) ws.length s6 L6 D6 m6 q2 mb2 ab2 ws.length s8 L6 D8 m8 ∧ gk = size - k) := ⟨hT, hgk⟩
      clear hT hgk
      by_cases hlt : k < size
      · have hki : (k : Int) < size := by omega
        go_wp2_with fail
        refine (lostAt_calls C.out.1.one.qc C.out.1.one.lost k (by omega) hnb).mono ?_
        rintro e wa ⟨rfl, hba⟩
        have C2 : Aside (Two w2 wa q1 mb1 ab1 ((size + 31) / 32) ws.length s6 L6 D6 m6 q2 mb2 ab2 ws.length s8 L6 D8 m8) := C.out.1.step hba
        clear hba
        go_wp2_with fail
        refine (lostAt_calls C2.out.two.qc C2.out.two.lost k (by omega) hnb).mono ?_
        rintro e wb ⟨rfl, hbb⟩
        have C3 : Aside (Two w2 wb q1 mb1 ab1 ((size + 31) / 32) ws.length s6 L6 D6 m6 q2 mb2 ab2 ws.length s8 L6 D8 m8) := C2.out.step hbb
        clear hbb
        go_wp2
        go_roundg (size - (k + 1))
        case measure => have := C.out.2; omega
        case rel => exact ⟨k + 1, by omega, by go_num, rfl, C3.out⟩
      · have hlen : m6.length = m8.length := length_of_look C.out.1.one.wts.nodup C.out.1.two.wts.nodup B8.out.2.1
        have HC1 : Hid (Calls Try.prog 20 #[.pointer (some ⟨q1, 0, none⟩)] wr fun e w' => e = .returned (.int .i64 m6.length) ∧ wr = w') := (count_calls C.out.1.one.qc C.out.1.one.wts).mono (fun _ _ h => ⟨h.1, h.2.symm⟩)
        have HC2 : Hid (Calls Try.prog 20 #[.pointer (some ⟨q2, 0, none⟩)] wr fun e w' => e = .returned (.int .i64 m6.length) ∧ wr = w') := by
          have := count_calls C.out.1.two.qc C.out.1.two.wts
          rw [← hlen] at this
          exact this.mono (fun _ _ h => ⟨h.1, h.2.symm⟩)
        clear hlen
        go_wp2_with fail
        refine HC1.out.mono ?_
        rintro e w' ⟨rfl, rfl⟩
        go_wp2_with fail
        refine HC2.out.mono ?_
        rintro e w' ⟨rfl, rfl⟩
        go_wp2
        go_loopg [26] ws.length (fun j i wr => ∃ k : Nat, k ≤ ws.length ∧ i = .int .i64 k ∧ j = ws.length - k ∧ Two w2 wr q1 mb1 ab1 ((size + 31) / 32) ws.length s6 L6 D6 m6 q2 mb2 ab2 ws.length s8 L6 D8 m8)
        case atStart => exact ⟨0, Nat.zero_le _, rfl, rfl, C.out.1⟩
        case round =>
          obtain ⟨k2, hk2, rfl, hgk, hT⟩ := hrel
          obtain ⟨g2, e2⟩ : ∃ g2, g2 = gk := ⟨_, rfl⟩
          subst e2
          by_cases hlt2 : k2 < ws.length
          · rcases A2.out.2.1 with h0 | ⟨bb, off, rfl, hw⟩
            · rw [List.map_eq_nil_iff] at h0
              subst h0
              simp at hlt2
            · obtain ⟨x0, x1, _, _⟩ := hw k2 (by simpa using hlt2)
              simp only [List.getElem_map, toW] at x0 x1
              have hp := A0.out.2.2.2.2.1 _ (List.getElem_mem hlt2)
              obtain ⟨⟨⟨ko, ks⟩, xx⟩, hv⟩ : ∃ v, v = ws[k2] := ⟨_, rfl⟩
              rw [← hv] at x0 x1 hp
              have y0 : wr.cell? ⟨bb, off + k2 * 4, none⟩ = some (.int .i64 ko) := cell_later hT.below x0
              have y1 : wr.cell? ⟨bb, off + k2 * 4 + 1, none⟩ = some (.int .u64 ks) := cell_later hT.below x1
              have hki2 : (k2 : Int) < ws.length := by omega
              obtain ⟨n, hn⟩ : ∃ n, n = ((look m6 (ko, ks)).getD []).length := ⟨_, rfl⟩
              have hn4 : n ≤ 1000000 := by
                rw [hn]
                cases hlk : look m6 (ko, ks) with
                | none => simp
                | some ksl =>
                  have h1 := (look_some hT.two.wts.nodup).1 (B8.out.2.1 ▸ hlk)
                  have h2 := le_total h1
                  have h3 := B8.out.2.2
                  simp at h2 ⊢
                  omega
              have HL1 : Hid (Calls Try.prog 21 #[.pointer (some ⟨q1, 0, none⟩), .int .i64 ko, .int .u64 ks] wr fun e w' => e = .returned (.int .i64 n) ∧ wr = w') := by
                have := len_calls hT.one.qc hT.one.wts ko ks hp.1
                rw [← hn] at this
                exact this.mono (fun _ _ h => ⟨h.1, h.2.symm⟩)
              have HL2 : Hid (Calls Try.prog 21 #[.pointer (some ⟨q2, 0, none⟩), .int .i64 ko, .int .u64 ks] wr fun e w' => e = .returned (.int .i64 n) ∧ wr = w') := by
                have := len_calls hT.two.qc hT.two.wts ko ks hp.1
                rw [← B8.out.2.1, ← hn] at this
                exact this.mono (fun _ _ h => ⟨h.1, h.2.symm⟩)
              have E : Aside (Two w2 wr q1 mb1 ab1 ((size + 31) / 32) ws.length s6 L6 D6 m6 q2 mb2 ab2 ws.length s8 L6 D8 m8 ∧ g2 = ws.length - k2 ∧ wfN (ko, ks) ∧ n = ((look m6 (ko, ks)).getD []).length) := ⟨hT, hgk, hp.1, hn⟩
              clear hT hgk hp hn hv x0 x1 hw HC1 HC2
              go_wp2_with fail
              refine HL1.out.mono ?_
              rintro e w' ⟨rfl, rfl⟩
              go_wp2_with fail
              refine HL2.out.mono ?_
              rintro e w' ⟨rfl, rfl⟩
              go_wp2
              clear HL1 HL2
              go_loopg [30] n (fun j i wr => ∃ t : Nat, t ≤ n ∧ i = .int .i64 t ∧ j = n - t ∧ Two w2 wr q1 mb1 ab1 ((size + 31) / 32) ws.length s6 L6 D6 m6 q2 mb2 ab2 ws.length s8 L6 D8 m8)
              case atStart => exact ⟨0, Nat.zero_le _, rfl, rfl, E.out.1⟩
              case round =>
                obtain ⟨t, ht, rfl, hgk, hT⟩ := hrel
                by_cases hlt3 : t < n
                · obtain ⟨ksl, hk1⟩ : ∃ ksl, look m6 (ko, ks) = some ksl := by
                    cases hlk : look m6 (ko, ks) with
                    | none =>
                      have := E.out.2.2.2
                      rw [hlk] at this
                      simp at this
                      omega
                    | some ksl => exact ⟨ksl, rfl⟩
                  have hk2 : look m8 (ko, ks) = some ksl := B8.out.2.1 ▸ hk1
                  have htl : t < ksl.length := by
                    have := E.out.2.2.2
                    rw [hk1] at this
                    simp at this
                    omega
                  have hti : (t : Int) < n := by omega
                  have HW1 : Hid (Calls Try.prog 22 #[.pointer (some ⟨q1, 0, none⟩), .int .i64 ko, .int .u64 ks, .int .i64 t] wr fun e w' => e = .returned (.tuple #[.int .i64 (ksl[t]).1, .int .u64 (ksl[t]).2]) ∧ Below wr.heap.size wr w') := waiter_calls hT.one.qc hT.one.wts ko ks E.out.2.2.1 ksl hk1 t htl
                  have F : Aside (Two w2 wr q1 mb1 ab1 ((size + 31) / 32) ws.length s6 L6 D6 m6 q2 mb2 ab2 ws.length s8 L6 D8 m8 ∧ gk = n - t ∧ look m8 (ko, ks) = some ksl ∧ t < ksl.length) := ⟨hT, hgk, hk2, htl⟩
                  clear hT hgk hk1 hk2
                  go_wp2_with fail
                  refine HW1.out.mono ?_
                  rintro e wa ⟨rfl, hba⟩
                  have F2 : Aside (Two w2 wa q1 mb1 ab1 ((size + 31) / 32) ws.length s6 L6 D6 m6 q2 mb2 ab2 ws.length s8 L6 D8 m8) := F.out.1.step hba
                  have HW2 : Hid (Calls Try.prog 22 #[.pointer (some ⟨q2, 0, none⟩), .int .i64 ko, .int .u64 ks, .int .i64 t] wa fun e w' => e = .returned (.tuple #[.int .i64 (ksl[t]).1, .int .u64 (ksl[t]).2]) ∧ Below wa.heap.size wa w') := waiter_calls F2.out.two.qc F2.out.two.wts ko ks E.out.2.2.1 ksl F.out.2.2.1 t htl
                  clear hba HW1
                  go_wp2_with fail
                  refine HW2.out.mono ?_
                  rintro e wb ⟨rfl, hbb⟩
                  have F3 : Aside (Two w2 wb q1 mb1 ab1 ((size + 31) / 32) ws.length s6 L6 D6 m6 q2 mb2 ab2 ws.length s8 L6 D8 m8) := F2.out.step hbb
                  clear hbb HW2
                  go_wp2
                  go_roundg (n - (t + 1))
                  case measure => have := F.out.2.1; omega
                  case rel => exact ⟨t + 1, by omega, by go_num, rfl, F3.out⟩
                · have F : Aside (Two w2 wr q1 mb1 ab1 ((size + 31) / 32) ws.length s6 L6 D6 m6 q2 mb2 ab2 ws.length s8 L6 D8 m8) := hT
                  clear hT hgk
                  go_wp2
                  go_roundg (ws.length - (k2 + 1))
                  case measure => have := E.out.2.1; omega
                  case rel => exact ⟨k2 + 1, by omega, by go_num, rfl, F.out⟩
          · have E : Aside (Two w2 wr q1 mb1 ab1 ((size + 31) / 32) ws.length s6 L6 D6 m6 q2 mb2 ab2 ws.length s8 L6 D8 m8) := hT
            clear hT hgk HC1 HC2
            go_wp2
            go_ret
            exact ⟨rfl, A2.out.2.2.trans (E.out.below.mono A2.out.2.2.size)⟩
end Go.Proofs.Qxb6602500a
