import Derived.Test.Qxb6612720aLists
namespace Go.Proofs.Qxb6612720a
open Go.RowKit
set_option maxRecDepth 100000

theorem idx_mem {rs : List (Int × Int)} {x : Int × Int} (h : x ∈ rs) : idx rs x = (rs.idxOf x : Int) := by rw [idx, if_pos h]

set_option maxHeartbeats 2000000 in
theorem sameGrants_calls (w : World) (a1 a2 : Option Addr) (c1 c2 b1 b2 n1 n2 : Nat) (ra rb : List (Int × Int)) (u1 u2 : Nat → Nat) (h1 : RefsIn w a1 ra) (h2 : RefsIn w a2 rb) (w1 : WordsIn w b1 n1 u1) (w2 : WordsIn w b2 n2 u2)
    (l1 : ra.length ≤ 64 * n1) (l2 : rb.length ≤ 64 * n2) (m1 : n1 ≤ 10000) (m2 : n2 ≤ 10000)
    (s1 : ∀ g (h : g < ra.length), bitU u1 g = true → ra[g] ∈ rb ∧ bitU u2 (rb.idxOf ra[g]) = true) (s2 : ∀ g (h : g < rb.length), bitU u2 g = true → rb[g] ∈ ra ∧ bitU u1 (ra.idxOf rb[g]) = true) :
    Calls Try.prog 20 #[.slice a1 ra.length c1, .slice (some ⟨b1, 0, none⟩) n1 n1, .slice a2 rb.length c2, .slice (some ⟨b2, 0, none⟩) n2 n2] w fun e w' => e = .returned (.bool true) ∧ Below w.heap.size w w' := by
  have HI : Hid (RefsIn w a1 ra ∧ RefsIn w a2 rb ∧ WordsIn w b1 n1 u1 ∧ WordsIn w b2 n2 u2) := ⟨h1, h2, w1, w2⟩
  have HS : Hid ((∀ g (h : g < ra.length), bitU u1 g = true → ra[g] ∈ rb ∧ bitU u2 (rb.idxOf ra[g]) = true) ∧ (∀ g (h : g < rb.length), bitU u2 g = true → rb[g] ∈ ra ∧ bitU u1 (ra.idxOf rb[g]) = true)) := ⟨s1, s2⟩
  clear h1 h2 w1 w2 s1 s2
  go_enter Try.func20, Try.ntmps20
  go_wp2_with fail
  go_loopg [9] ra.length (fun j i wr => ∃ k : Nat, k ≤ ra.length ∧ i = .int .i64 k ∧ j = ra.length - k ∧ Below w.heap.size w wr)
  case atStart => exact ⟨0, Nat.zero_le _, rfl, rfl, Below.refl _ _⟩
  case round =>
    obtain ⟨k, hk, rfl, hgk, hbel⟩ := hrel
    have HC : Hid (Below w.heap.size w wr ∧ gk = ra.length - k) := ⟨hbel, hgk⟩
    clear hbel hgk
    by_cases hlt : k < ra.length
    · have hki : (k : Int) < ra.length := by omega
      go_wp2_with fail
      refine (bitAt_calls wr b1 n1 k u1 (HI.out.2.2.1.later HC.out.1) (by omega) (by omega)).mono ?_
      rintro e w' ⟨rfl, rfl⟩
      cases hbit : bitU u1 k
      · go_wp2_with fail
        go_roundg (ra.length - (k + 1))
        case measure => have := HC.out.2; omega
        case rel => exact ⟨k + 1, by omega, by go_num, rfl, HC.out.1⟩
      · obtain ⟨hin, hb2⟩ := HS.out.1 k hlt hbit
        rcases HI.out.1 with h0 | ⟨b, off, rfl, hc⟩
        · rw [h0] at hlt; simp at hlt
        · obtain ⟨x0, x1⟩ := hc k hlt
          have y0 : wr.cell? ⟨b, off + k * 2, none⟩ = some (.int .i64 (ra[k]).1) := (HC.out.1.cell (World.block_lt_of_cell? w ⟨b, off + k * 2, none⟩ x0)).trans x0
          have y1 : wr.cell? ⟨b, off + k * 2 + 1, none⟩ = some (.int .i64 (ra[k]).2) := (HC.out.1.cell (World.block_lt_of_cell? w ⟨b, off + k * 2 + 1, none⟩ x1)).trans x1
          obtain ⟨q, hq⟩ : ∃ q, q = ra[k] := ⟨_, rfl⟩
          rw [← hq] at y0 y1 hin hb2
          have hil : rb.idxOf q < rb.length := List.idxOf_lt_length_iff.2 hin
          have HQ : Hid (q ∈ rb ∧ bitU u2 (rb.idxOf q) = true) := ⟨hin, hb2⟩
          clear hq hin hb2 x0 x1 hc
          go_wp2_with fail
          refine (indexOf_calls wr a2 c2 rb q (HI.out.2.1.later HC.out.1) (by omega)).mono ?_
          rintro e w3 ⟨rfl, hb3⟩
          rw [idx_mem HQ.out.1]
          generalize rb.idxOf q = t at HQ hil ⊢
          have HD : Hid (Below w.heap.size w w3) := HC.out.1.trans (hb3.mono HC.out.1.size)
          clear hb3
          go_wp2_with fail
          refine (bitAt_calls w3 b2 n2 t u2 (HI.out.2.2.2.later HD.out) (by omega) (by omega)).mono ?_
          rintro e w' ⟨rfl, rfl⟩
          rw [HQ.out.2]
          go_wp2_with fail
          go_roundg (ra.length - (k + 1))
          case measure => have := HC.out.2; omega
          case rel => exact ⟨k + 1, by omega, by go_num, rfl, HD.out⟩
    · go_wp2_with fail
      obtain ⟨wy, hwy⟩ : ∃ wy, wy = wr := ⟨_, rfl⟩
      obtain ⟨gy, hgy⟩ : ∃ gy, gy = gk := ⟨_, rfl⟩
      subst hwy hgy
      go_loopg [11] rb.length (fun j i wr => ∃ k : Nat, k ≤ rb.length ∧ i = .int .i64 k ∧ j = rb.length - k ∧ Below w.heap.size w wr)
      case atStart => exact ⟨0, Nat.zero_le _, rfl, rfl, HC.out.1⟩
      case round =>
        obtain ⟨m, hm, rfl, hgm, hbel⟩ := hrel
        have HE : Hid (Below w.heap.size w wr ∧ gk = rb.length - m) := ⟨hbel, hgm⟩
        clear hbel hgm
        by_cases hlm : m < rb.length
        · have hmi : (m : Int) < rb.length := by omega
          go_wp2_with fail
          refine (bitAt_calls wr b2 n2 m u2 (HI.out.2.2.2.later HE.out.1) (by omega) (by omega)).mono ?_
          rintro e w' ⟨rfl, rfl⟩
          cases hbit : bitU u2 m
          · go_wp2_with fail
            go_roundg (rb.length - (m + 1))
            case measure => have := HE.out.2; omega
            case rel => exact ⟨m + 1, by omega, by go_num, rfl, HE.out.1⟩
          · obtain ⟨hin, hb2⟩ := HS.out.2 m hlm hbit
            rcases HI.out.2.1 with h0 | ⟨b, off, rfl, hc⟩
            · rw [h0] at hlm; simp at hlm
            · obtain ⟨x0, x1⟩ := hc m hlm
              have y0 : wr.cell? ⟨b, off + m * 2, none⟩ = some (.int .i64 (rb[m]).1) := (HE.out.1.cell (World.block_lt_of_cell? w ⟨b, off + m * 2, none⟩ x0)).trans x0
              have y1 : wr.cell? ⟨b, off + m * 2 + 1, none⟩ = some (.int .i64 (rb[m]).2) := (HE.out.1.cell (World.block_lt_of_cell? w ⟨b, off + m * 2 + 1, none⟩ x1)).trans x1
              obtain ⟨q, hq⟩ : ∃ q, q = rb[m] := ⟨_, rfl⟩
              rw [← hq] at y0 y1 hin hb2
              have hil : ra.idxOf q < ra.length := List.idxOf_lt_length_iff.2 hin
              have HQ : Hid (q ∈ ra ∧ bitU u1 (ra.idxOf q) = true) := ⟨hin, hb2⟩
              clear hq hin hb2 x0 x1 hc
              go_wp2_with fail
              refine (indexOf_calls wr a1 c1 ra q (HI.out.1.later HE.out.1) (by omega)).mono ?_
              rintro e w3 ⟨rfl, hb3⟩
              rw [idx_mem HQ.out.1]
              generalize ra.idxOf q = t at HQ hil ⊢
              have HD : Hid (Below w.heap.size w w3) := HE.out.1.trans (hb3.mono HE.out.1.size)
              clear hb3
              go_wp2_with fail
              refine (bitAt_calls w3 b1 n1 t u1 (HI.out.2.2.1.later HD.out) (by omega) (by omega)).mono ?_
              rintro e w' ⟨rfl, rfl⟩
              rw [HQ.out.2]
              go_wp2_with fail
              go_roundg (rb.length - (m + 1))
              case measure => have := HE.out.2; omega
              case rel => exact ⟨m + 1, by omega, by go_num, rfl, HD.out⟩
        · go_wp2
          go_ret
          exact ⟨rfl, HE.out.1⟩
end Go.Proofs.Qxb6612720a
