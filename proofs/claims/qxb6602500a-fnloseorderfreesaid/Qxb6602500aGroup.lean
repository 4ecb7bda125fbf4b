import Derived.Test.Qxb6602500aCopy
namespace Go.Proofs.Qxb6602500a
open Go.RowKit
set_option maxRecDepth 100000

/-- A wait whose nodes lie in a group of size nodes. -/
def inG (size : Int) (x : Int × Int × Int × Int) : Bool := decide (0 ≤ x.1 ∧ x.1 < size ∧ 0 ≤ x.2.2.1 ∧ x.2.2.1 < size ∧ x.2.2.2 ≠ 0)

set_option maxHeartbeats 1000000 in
theorem group_calls (w : World) (a : Option Addr) (cap : Nat) (size : Int) (ls : List (Int × Int × Int × Int)) (h : InW w a ls) (hl : ls.length ≤ 1048576) :
    Calls Try.prog 9 #[.int .i64 size, .slice a ls.length cap] w fun e w' => e = .returned (.bool (ls.all (inG size))) ∧ w' = w := by
  rcases h with rfl | ⟨b, off, rfl, h⟩
  · go_enter Try.func9, Try.ntmps9
    go_wp2
    refine wp_loop_rounds 1 ?_
    rw [rounds_succ]
    go_wp2
    go_ret
    exact ⟨rfl, rfl⟩
  · have H : Hid (∀ i (h : i < ls.length), w.cell? ⟨b, off + i * 4, none⟩ = some (.int .i64 (ls[i]).1) ∧ w.cell? ⟨b, off + i * 4 + 1, none⟩ = some (.int .u64 (ls[i]).2.1) ∧ w.cell? ⟨b, off + i * 4 + 2, none⟩ = some (.int .i64 (ls[i]).2.2.1) ∧ w.cell? ⟨b, off + i * 4 + 3, none⟩ = some (.int .u64 (ls[i]).2.2.2)) := h
    clear h
    go_enter Try.func9, Try.ntmps9
    go_wp2
    go_loopg [5] ls.length (fun j i wr => ∃ k : Nat, k ≤ ls.length ∧ i = .int .i64 k ∧ j = ls.length - k ∧ (∀ i (h : i < ls.length), i < k → inG size ls[i] = true) ∧ w = wr)
    case atStart => exact ⟨0, Nat.zero_le _, rfl, rfl, fun i _ h0 => absurd h0 (by omega), rfl⟩
    case round =>
      obtain ⟨k, hk, rfl, hgk, hall, rfl⟩ := hrel
      by_cases hlt : k < ls.length
      · obtain ⟨x0, x1, x2, x3⟩ := H.out k hlt
        obtain ⟨v, hv⟩ : ∃ v, v = ls[k] := ⟨_, rfl⟩
        rw [← hv] at x0 x2 x3
        have HA : Hid ((∀ i (h : i < ls.length), i < k → inG size ls[i] = true) ∧ gk = ls.length - k ∧ v = ls[k]) := ⟨hall, hgk, hv⟩
        have hki : (k : Int) < ls.length := by omega
        have bad : inG size v = false → ls.all (inG size) = false := fun h0 => by
          rw [List.all_eq_false]
          exact ⟨v, by rw [hv]; exact List.getElem_mem hlt, by simp [h0]⟩
        have HB : Hid (inG size v = false → ls.all (inG size) = false) := bad
        clear hall hgk hv x1 bad
        cases hz : (v.2.2.2 == 0)
        · have hz' : v.2.2.2 ≠ 0 := by simpa using hz
          have HZ : Hid (v.2.2.2 ≠ 0) := hz'
          clear hz'
          go_wp2
          all_goals first
            | (go_ret; exact ⟨by rw [HB.out (decide_eq_false (by intro h5; omega))]; rfl, rfl⟩)
            | (go_roundg (ls.length - (k + 1))
               case measure => have := HA.out.2.1; omega
               case rel =>
                 refine ⟨k + 1, by omega, by go_num, rfl, fun i hi hik => ?_, rfl⟩
                 by_cases e : i = k
                 · subst e
                   rw [← HA.out.2.2]
                   have := HZ.out
                   exact decide_eq_true (by omega)
                 · exact HA.out.1 i hi (by omega))
        · have hz' : v.2.2.2 = 0 := by simpa using hz
          have HZ : Hid (v.2.2.2 = 0) := hz'
          clear hz'
          go_wp2
          all_goals (go_ret; exact ⟨by rw [HB.out (decide_eq_false (by intro h5; exact h5.2.2.2.2 HZ.out))]; rfl, rfl⟩)
      · have HA : Hid (∀ i (h : i < ls.length), i < k → inG size ls[i] = true) := hall
        clear hall hgk
        go_wp2
        go_ret
        have : ls.all (inG size) = true := by
          rw [List.all_eq_true]
          intro y hy
          obtain ⟨i, hi, rfl⟩ := List.getElem_of_mem hy
          exact HA.out i hi (by omega)
        exact ⟨by rw [this]; rfl, rfl⟩
end Go.Proofs.Qxb6602500a
