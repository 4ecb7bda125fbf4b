import Derived.Test.Qxb6612720aIn
namespace Go.Proofs.Qxb6612720a
open Go.RowKit
set_option maxRecDepth 100000

/-- Some truth value came back. -/
def IsB (e : Ending) : Prop := ∃ v : Bool, e = .returned (.bool v)

set_option maxHeartbeats 2000000 in
theorem bytes_calls (w : World) (aS aL aU : Option Addr) (nS cS cL cU : Nat) (ls : List (ByteArray × ByteArray × List (Int × Int))) (us : List (ByteArray × List (Int × Int))) (now which place : Int) (ex : Int × Int)
    (hL : ListedIn w aL ls) (hU : UnlistedIn w aU us) :
    Calls Try.prog 18 #[.slice aS nS cS, .slice aL ls.length cL, .slice aU us.length cU, .int .i64 now, .int .i64 which, .int .i64 place, .agg #[.int .i64 ex.1, .int .i64 ex.2]] w fun e w' => IsB e ∧ Below w.heap.size w w' := by
  have HI : Hid (ListedIn w aL ls ∧ UnlistedIn w aU us) := ⟨hL, hU⟩
  have HB : Hid (Below w.heap.size w (w.alloc (.cells #[.int .i64 ex.1, .int .i64 ex.2] 60))) := (Below.refl _ _).alloc (Nat.le_refl _) _
  clear hL hU
  go_enter Try.func18, Try.ntmps18
  by_cases c1 : (1048576 : Int) < nS
  · go_wp2
    go_ret
    exact ⟨⟨_, rfl⟩, HB.out⟩
  by_cases c2 : (1048576 : Int) < ls.length
  · go_wp2
    go_ret
    exact ⟨⟨_, rfl⟩, HB.out⟩
  by_cases c3 : (1048576 : Int) < nS + ls.length
  · go_wp2
    go_ret
    exact ⟨⟨_, rfl⟩, HB.out⟩
  go_wp2_with fail
  go_loopg [15, 16] ls.length (fun j v i wr => ∃ k n : Nat, k ≤ ls.length ∧ n ≤ 1048576 ∧ v = .int .i64 n ∧ i = .int .i64 k ∧ j = ls.length - k ∧ wr = w.alloc (.cells #[.int .i64 ex.1, .int .i64 ex.2] 60))
  case atStart => exact ⟨0, nS + ls.length, Nat.zero_le _, by omega, by simp, rfl, rfl, rfl⟩
  case round =>
    obtain ⟨k, n, hk, hn, rfl, rfl, hgk, rfl⟩ := hrel
    by_cases hlt : k < ls.length
    · rcases HI.out.1 with h0 | ⟨b, off, rfl, hc⟩
      · rw [h0] at hlt; simp at hlt
      · obtain ⟨x0, x1, ra, rc, x2, -⟩ := hc k hlt
        have y0 := cell_later HB.out x0
        have y1 := cell_later HB.out x1
        have y2 := cell_later HB.out x2
        obtain ⟨A, hA⟩ : ∃ A, A = (ls[k]).1 := ⟨_, rfl⟩
        obtain ⟨B, hB⟩ : ∃ B, B = (ls[k]).2.1 := ⟨_, rfl⟩
        obtain ⟨m, hm⟩ : ∃ m, m = (ls[k]).2.2.length := ⟨_, rfl⟩
        rw [← hA] at y0
        rw [← hB] at y1
        rw [← hm] at y2
        have hki : (k : Int) < ls.length := by omega
        clear hc x0 x1 x2 hA hB hm
        by_cases d1 : (1048576 : Int) < A.size
        · go_wp2
          go_ret
          exact ⟨⟨_, rfl⟩, HB.out⟩
        by_cases d2 : (1048576 : Int) < n + A.size
        · go_wp2
          go_ret
          exact ⟨⟨_, rfl⟩, HB.out⟩
        by_cases d3 : (1048576 : Int) < B.size
        · go_wp2
          go_ret
          exact ⟨⟨_, rfl⟩, HB.out⟩
        by_cases d4 : (1048576 : Int) < n + A.size + B.size
        · go_wp2
          go_ret
          exact ⟨⟨_, rfl⟩, HB.out⟩
        by_cases d5 : (1048576 : Int) < m
        · go_wp2
          go_ret
          exact ⟨⟨_, rfl⟩, HB.out⟩
        by_cases d6 : (1048576 : Int) < n + A.size + B.size + m
        · go_wp2
          go_ret
          exact ⟨⟨_, rfl⟩, HB.out⟩
        go_wp2
        go_roundg (ls.length - (k + 1))
        case measure => omega
        case rel => exact ⟨k + 1, n + A.size + B.size + m, by omega, by omega, by go_num, by go_num, rfl, rfl⟩
    · by_cases e1 : (1048576 : Int) < us.length
      · go_wp2
        go_ret
        exact ⟨⟨_, rfl⟩, HB.out⟩
      by_cases e2 : (1048576 : Int) < n + us.length
      · go_wp2
        go_ret
        exact ⟨⟨_, rfl⟩, HB.out⟩
      clear hgk
      go_wp2_with fail
      go_loopg [15, 17] us.length (fun j v i wr => ∃ k n : Nat, k ≤ us.length ∧ n ≤ 1048576 ∧ v = .int .i64 n ∧ i = .int .i64 k ∧ j = us.length - k ∧ wr = w.alloc (.cells #[.int .i64 ex.1, .int .i64 ex.2] 60))
      case atStart => exact ⟨0, n + us.length, Nat.zero_le _, by omega, by go_num, rfl, rfl, rfl⟩
      case round =>
        obtain ⟨k, n, hk, hn, rfl, rfl, hgk, rfl⟩ := hrel
        by_cases hlt : k < us.length
        · rcases HI.out.2 with h0 | ⟨b, off, rfl, hc⟩
          · rw [h0] at hlt; simp at hlt
          · obtain ⟨x0, ra, rc, x2, -⟩ := hc k hlt
            have y0 := cell_later HB.out x0
            have y2 := cell_later HB.out x2
            obtain ⟨A, hA⟩ : ∃ A, A = (us[k]).1 := ⟨_, rfl⟩
            obtain ⟨m, hm⟩ : ∃ m, m = (us[k]).2.length := ⟨_, rfl⟩
            rw [← hA] at y0
            rw [← hm] at y2
            have hki : (k : Int) < us.length := by omega
            clear hc x0 x2 hA hm
            by_cases d1 : (1048576 : Int) < A.size
            · go_wp2
              go_ret
              exact ⟨⟨_, rfl⟩, HB.out⟩
            by_cases d2 : (1048576 : Int) < n + A.size
            · go_wp2
              go_ret
              exact ⟨⟨_, rfl⟩, HB.out⟩
            by_cases d5 : (1048576 : Int) < m
            · go_wp2
              go_ret
              exact ⟨⟨_, rfl⟩, HB.out⟩
            by_cases d6 : (1048576 : Int) < n + A.size + m
            · go_wp2
              go_ret
              exact ⟨⟨_, rfl⟩, HB.out⟩
            go_wp2
            go_roundg (us.length - (k + 1))
            case measure => omega
            case rel => exact ⟨k + 1, n + A.size + m, by omega, by omega, by go_num, by go_num, rfl, rfl⟩
        · go_wp2
          go_ret
          exact ⟨⟨_, rfl⟩, HB.out⟩
end Go.Proofs.Qxb6612720a
