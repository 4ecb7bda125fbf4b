import Derived.Test.Qxb6602500aRows
import Derived.Test.Qxb6602500aPlain
import Derived.Deep.RegionHeld3
import Derived.Deep.DrawnRows
import Derived.WalkKit
import Derived.WalkSpells
import Derived.WalkLawsBesides
namespace Go.Proofs.Qxb6602500a
open Go.RowKit

set_option maxHeartbeats 400000 in
theorem has_any (f l s : Int) (w : World) :
    Calls Try.prog 53 #[.agg #[.int .u64 f, .int .u64 l], .int .u64 s] w fun e w' => e = .returned (.bool (hasB f l s)) ∧ Below w.heap.size w w' := by
  go_enter Try.func53, Try.ntmps53
  go_wp2
  all_goals
    go_ret
    refine ⟨?_, (Below.refl _ _).alloc (Nat.le_refl _) _⟩
    simp [hasB, *]
  all_goals omega

theorem lt_of_cell {w : World} {b o : Nat} {v : Value} (h : w.cell? ⟨b, o, none⟩ = some v) : b < w.heap.size := World.block_lt_of_cell? w ⟨b, o, none⟩ h

set_option maxHeartbeats 400000 in
theorem at_nil (ab nb cap p : Nat) (w : World) (hp : p < 32 * nb) (hnb : nb ≤ 1000000) (hc : w.cell? ⟨ab, p / 32, none⟩ = some (.pointer none)) :
    Calls Try.prog 48 #[.agg #[.slice (some ⟨ab, 0, none⟩) nb cap], .int .i64 p] w fun e w' => e = .returned (.agg #[.int .u64 0, .int .u64 0]) ∧ Below w.heap.size w w' := by
  have h1 : (p : Int) / 32 < nb := by omega
  have hlt := lt_of_cell hc
  go_enter Try.func48, Try.ntmps48
  go_wp2
  exact bodyPost_ret (v := .agg #[.int .u64 0, .int .u64 0]) (by simp [results, Try.results48, go_sem]) rfl ⟨rfl, (((Below.refl _ _).alloc (Nat.le_refl _) _).alloc (by simp) _).alloc (by simp; omega) _⟩

set_option maxHeartbeats 400000 in
theorem at_some (ab nb cap p s : Nat) (f l : Int) (w : World) (hp : p < 32 * nb) (hnb : nb ≤ 1000000) (hc : w.cell? ⟨ab, p / 32, none⟩ = some (.pointer (some ⟨s, 0, none⟩)))
    (hf : w.cell? ⟨s, p % 32 * 2, none⟩ = some (.int .u64 f)) (hl : w.cell? ⟨s, p % 32 * 2 + 1, none⟩ = some (.int .u64 l)) :
    Calls Try.prog 48 #[.agg #[.slice (some ⟨ab, 0, none⟩) nb cap], .int .i64 p] w fun e w' => e = .returned (.agg #[.int .u64 f, .int .u64 l]) ∧ Below w.heap.size w w' := by
  have h1 : (p : Int) / 32 < nb := by omega
  have hlt := lt_of_cell hc
  have hls := lt_of_cell hf
  go_enter Try.func48, Try.ntmps48
  go_wp2
  exact bodyPost_ret (v := .agg #[.int .u64 f, .int .u64 l]) (by simp [results, Try.results48, go_sem]) rfl ⟨rfl, (((Below.refl _ _).alloc (Nat.le_refl _) _).alloc (by simp) _)⟩

set_option maxHeartbeats 400000 in
theorem of_some (ab nb cap p s : Nat) (w : World) (hp : p < 32 * nb) (hnb : nb ≤ 1000000) (hc : w.cell? ⟨ab, p / 32, none⟩ = some (.pointer (some ⟨s, 0, none⟩))) :
    Calls Try.prog 60 #[.agg #[.slice (some ⟨ab, 0, none⟩) nb cap], .int .i64 p] w fun e w' => e = .returned (.pointer (some ⟨s, p % 32 * 2, none⟩)) ∧ w' = w.alloc (.cells #[.slice (some ⟨ab, 0, none⟩) nb cap] 89) := by
  have h1 : (p : Int) / 32 < nb := by omega
  have hlt := lt_of_cell hc
  go_enter Try.func60, Try.ntmps60
  go_wp2
  go_ret
  exact ⟨rfl, rfl⟩

/-- A block of thirty-two places, none given up. -/
def zero64 : Array Value := ⟨List.replicate 64 (.int .u64 0)⟩

set_option maxHeartbeats 400000 in
theorem of_nil (ab nb cap p : Nat) (w : World) (hp : p < 32 * nb) (hnb : nb ≤ 1000000) (hc : w.cell? ⟨ab, p / 32, none⟩ = some (.pointer none)) (hfz : w.frozen? ⟨ab, p / 32, none⟩ = false) :
    Calls Try.prog 60 #[.agg #[.slice (some ⟨ab, 0, none⟩) nb cap], .int .i64 p] w fun e w' => e = .returned (.pointer (some ⟨w.heap.size + 1, p % 32 * 2, none⟩)) ∧
      w' = ((w.setCell ⟨ab, p / 32, none⟩ (.pointer (some ⟨w.heap.size + 1, 0, none⟩))).alloc (.cells #[.slice (some ⟨ab, 0, none⟩) nb cap] 89)).alloc (.cells zero64 114) := by
  have h1 : (p : Int) / 32 < nb := by omega
  have hlt := lt_of_cell hc
  go_enter Try.func60, Try.ntmps60
  go_wp2
  go_ret
  exact ⟨rfl, rfl⟩

theorem lts {a b : Nat} (h : a < b) : a < b + 1 ∧ a < b + 1 + 1 ∧ a < b + 1 + 1 + 1 := ⟨by omega, by omega, by omega⟩

set_option maxHeartbeats 400000 in
theorem set_some (ab nb cap p s : Nat) (f l f0 l0 : Int) (w : World) (hp : p < 32 * nb) (hnb : nb ≤ 1000000) (hc : w.cell? ⟨ab, p / 32, none⟩ = some (.pointer (some ⟨s, 0, none⟩)))
    (hf : w.cell? ⟨s, p % 32 * 2, none⟩ = some (.int .u64 f0)) (hl : w.cell? ⟨s, p % 32 * 2 + 1, none⟩ = some (.int .u64 l0)) (hff : w.frozen? ⟨s, p % 32 * 2, none⟩ = false) (hlf : w.frozen? ⟨s, p % 32 * 2 + 1, none⟩ = false) :
    Calls Try.prog 52 #[.agg #[.slice (some ⟨ab, 0, none⟩) nb cap], .int .i64 p, .agg #[.int .u64 f, .int .u64 l]] w fun e w' => e = .returned (.tuple #[]) ∧ Below w.heap.size ((w.setCell ⟨s, p % 32 * 2, none⟩ (.int .u64 f)).setCell ⟨s, p % 32 * 2 + 1, none⟩ (.int .u64 l)) w' := by
  have h1 : (p : Int) / 32 < nb := by omega
  have hlt := lt_of_cell hc
  have hls := lt_of_cell hf
  obtain ⟨hls1, hls2, hls3⟩ := lts hls
  obtain ⟨hlt1, hlt2, hlt3⟩ := lts hlt
  go_enter Try.func52, Try.ntmps52
  go_wp2
  go_region_held3 (fun w' => w'.cell? ⟨w.heap.size, 0, none⟩ = some (.slice (some ⟨ab, 0, none⟩) nb cap) ∧ w'.cell? ⟨w.heap.size + 1, 0, none⟩ = some (.int .u64 f) ∧ w'.cell? ⟨w.heap.size + 1, 1, none⟩ = some (.int .u64 l)) (first | (go_keep; done) | (go_simp; done))
    (first | (go_at_call 60; refine (of_some ab nb cap p s _ hp hnb ?_).mono ?_; (go_simp); rintro e w' ⟨rfl, rfl⟩))
  go_wp2
  go_end0
  exact ⟨rfl, ((((Below.refl _ _).alloc (by simp) _).alloc (by simp) _).alloc (by simp; omega) _).drew⟩

theorem new_block (X : World) (O : Obj) (n : Nat) (h : X.heap.size = n) : (X.alloc O).drew.heap[n]? = some O := by
  subst h
  exact heap_alloc_new X O

theorem zero64_at {j : Nat} (h : j < 64) : zero64[j]? = some (.int .u64 0) := by
  show (⟨List.replicate 64 (Value.int .u64 0)⟩ : Array Value)[j]? = _
  rw [List.getElem?_toArray, List.getElem?_replicate, if_pos h]

set_option maxHeartbeats 400000 in
theorem set_nil (ab nb cap p : Nat) (f l : Int) (w : World) (hp : p < 32 * nb) (hnb : nb ≤ 1000000) (hc : w.cell? ⟨ab, p / 32, none⟩ = some (.pointer none)) (hfz : w.frozen? ⟨ab, p / 32, none⟩ = false) :
    Calls Try.prog 52 #[.agg #[.slice (some ⟨ab, 0, none⟩) nb cap], .int .i64 p, .agg #[.int .u64 f, .int .u64 l]] w fun e w' => e = .returned (.tuple #[]) ∧ ∃ s, w.heap.size ≤ s ∧
      w'.heap[s]? = some (.cells ((zero64.setIfInBounds (p % 32 * 2) (.int .u64 f)).setIfInBounds (p % 32 * 2 + 1) (.int .u64 l)) 114) ∧ Below w.heap.size (w.setCell ⟨ab, p / 32, none⟩ (.pointer (some ⟨s, 0, none⟩))) w' := by
  have h1 : (p : Int) / 32 < nb := by omega
  have hlt := lt_of_cell hc
  obtain ⟨hlt1, hlt2, hlt3⟩ := lts hlt
  have hz0 : zero64[p % 32 * 2]? = some (.int .u64 0) := zero64_at (by omega)
  have hz1 : zero64[p % 32 * 2 + 1]? = some (.int .u64 0) := zero64_at (by omega)
  have hz2 : (zero64.setIfInBounds (p % 32 * 2) (.int .u64 f))[p % 32 * 2 + 1]? = some (.int .u64 0) := by
    rw [Array.getElem?_setIfInBounds_ne (by omega)]; exact hz1
  go_enter Try.func52, Try.ntmps52
  go_wp2
  go_region_held3 (fun w' => w'.cell? ⟨w.heap.size, 0, none⟩ = some (.slice (some ⟨ab, 0, none⟩) nb cap) ∧ w'.cell? ⟨w.heap.size + 1, 0, none⟩ = some (.int .u64 f) ∧ w'.cell? ⟨w.heap.size + 1, 1, none⟩ = some (.int .u64 l)) (first | (go_keep; done) | (go_simp; done))
    (first | (go_at_call 60; refine (of_nil ab nb cap p _ hp hnb ?_ ?_).mono ?_; (go_simp); (go_simp); rintro e w' ⟨rfl, rfl⟩))
  go_wp2
  go_end0
  refine ⟨rfl, w.heap.size + 1 + 1 + 1, by omega, ?_, (((((Below.refl _ _).alloc (by simp) _).alloc (by simp) _).alloc (by simp; omega) _).alloc (by simp; omega) _).drew⟩
  exact new_block _ _ _ (by simp)
end Go.Proofs.Qxb6602500a
