import Derived.Test.Qxb6609193aState
namespace Go.Proofs.Qxb6609193a
open Go.RowKit
set_option maxRecDepth 100000

theorem Bk.reads {w : World} {nb cb n : Nat} {mem sh ex : Int} (h : Bk w nb cb n mem sh ex) : w.cell? ⟨nb, 1, none⟩ = some (.slice (some ⟨cb, 0, none⟩) n n) ∧ w.cell? ⟨nb, 2, none⟩ = some (.int .i64 mem) ∧ w.cell? ⟨nb, 8, none⟩ = some (.int .i64 sh) ∧ w.cell? ⟨nb, 9, none⟩ = some (.int .i64 0) ∧ w.cell? ⟨nb, 10, none⟩ = some (.int .i64 ex) ∧ w.cell? ⟨nb, 12, none⟩ = some (.int .i64 0) := by
  obtain ⟨c, m1, c1, c2, c3, c4, c5, c6⟩ := h.node
  exact ⟨cell_of_block m1 c1, cell_of_block m1 c2, cell_of_block m1 c3, cell_of_block m1 c4, cell_of_block m1 c5, cell_of_block m1 c6⟩

theorem c19 {w : World} {nb cb n : Nat} {mem sh ex : Int} (h : Bk w nb cb n mem sh ex) : Calls Try.prog 19 #[.pointer (some ⟨nb, 0, none⟩)] w fun e w' => e = .returned (.int .i64 n) ∧ w = w' := by
  obtain ⟨h1, h2, h8, h9, h10, h12⟩ := h.reads
  clear h
  go_enter Try.func19, Try.ntmps19
  go_wp2
  go_ret
  exact ⟨rfl, rfl⟩
theorem c20 {w : World} {nb cb n : Nat} {mem sh ex : Int} (h : Bk w nb cb n mem sh ex) : Calls Try.prog 20 #[.pointer (some ⟨nb, 0, none⟩)] w fun e w' => e = .returned (.int .i64 sh) ∧ w = w' := by
  obtain ⟨h1, h2, h8, h9, h10, h12⟩ := h.reads
  clear h
  go_enter Try.func20, Try.ntmps20
  go_wp2
  go_ret
  exact ⟨rfl, rfl⟩
theorem c21 {w : World} {nb cb n : Nat} {mem sh ex : Int} (h : Bk w nb cb n mem sh ex) : Calls Try.prog 21 #[.pointer (some ⟨nb, 0, none⟩)] w fun e w' => e = .returned (.int .i64 0) ∧ w = w' := by
  obtain ⟨h1, h2, h8, h9, h10, h12⟩ := h.reads
  clear h
  go_enter Try.func21, Try.ntmps21
  go_wp2
  go_ret
  exact ⟨rfl, rfl⟩
theorem c22 {w : World} {nb cb n : Nat} {mem sh ex : Int} (h : Bk w nb cb n mem sh ex) : Calls Try.prog 22 #[.pointer (some ⟨nb, 0, none⟩)] w fun e w' => e = .returned (.int .i64 ex) ∧ w = w' := by
  obtain ⟨h1, h2, h8, h9, h10, h12⟩ := h.reads
  clear h
  go_enter Try.func22, Try.ntmps22
  go_wp2
  go_ret
  exact ⟨rfl, rfl⟩
theorem c23 {w : World} {nb cb n : Nat} {mem sh ex : Int} (h : Bk w nb cb n mem sh ex) : Calls Try.prog 23 #[.pointer (some ⟨nb, 0, none⟩)] w fun e w' => e = .returned (.int .i64 0) ∧ w = w' := by
  obtain ⟨h1, h2, h8, h9, h10, h12⟩ := h.reads
  clear h
  go_enter Try.func23, Try.ntmps23
  go_wp2
  go_ret
  exact ⟨rfl, rfl⟩
theorem c24 {w : World} {nb cb n : Nat} {mem sh ex : Int} (h : Bk w nb cb n mem sh ex) : Calls Try.prog 24 #[.pointer (some ⟨nb, 0, none⟩)] w fun e w' => e = .returned (.int .i64 mem) ∧ w = w' := by
  obtain ⟨h1, h2, h8, h9, h10, h12⟩ := h.reads
  clear h
  go_enter Try.func24, Try.ntmps24
  go_wp2
  go_ret
  exact ⟨rfl, rfl⟩
theorem c25 {w : World} {nb cb n : Nat} {mem sh ex : Int} (h : Bk w nb cb n mem sh ex) (i : Nat) (hi : i < n) : Calls Try.prog 25 #[.pointer (some ⟨nb, 0, none⟩), .int .i64 i] w fun e w' => e = .returned (.int .i64 0) ∧ w = w' := by
  obtain ⟨h1, h2, h8, h9, h10, h12⟩ := h.reads
  obtain ⟨k0, k1, k2⟩ := h.core i hi
  have hii : (i : Int) < n := by omega
  clear h
  go_enter Try.func25, Try.ntmps25
  go_wp2
  go_ret
  exact ⟨rfl, rfl⟩
theorem c26 {w : World} {nb cb n : Nat} {mem sh ex : Int} (h : Bk w nb cb n mem sh ex) (i : Nat) (hi : i < n) : Calls Try.prog 26 #[.pointer (some ⟨nb, 0, none⟩), .int .i64 i] w fun e w' => e = .returned (.int .i64 0) ∧ w = w' := by
  obtain ⟨h1, h2, h8, h9, h10, h12⟩ := h.reads
  obtain ⟨k0, k1, k2⟩ := h.core i hi
  have hii : (i : Int) < n := by omega
  clear h
  go_enter Try.func26, Try.ntmps26
  go_wp2
  go_ret
  exact ⟨rfl, rfl⟩
theorem c27 {w : World} {nb cb n : Nat} {mem sh ex : Int} (h : Bk w nb cb n mem sh ex) (i : Nat) (hi : i < n) : Calls Try.prog 27 #[.pointer (some ⟨nb, 0, none⟩), .int .i64 i] w fun e w' => e = .returned (.bool false) ∧ w = w' := by
  obtain ⟨h1, h2, h8, h9, h10, h12⟩ := h.reads
  obtain ⟨k0, k1, k2⟩ := h.core i hi
  have hii : (i : Int) < n := by omega
  clear h
  go_enter Try.func27, Try.ntmps27
  go_wp2
  go_ret
  exact ⟨rfl, rfl⟩

theorem Zeros.set0 {w : World} {b n : Nat} {t : TypeId} (h : Zeros w b t n) (k : Nat) : Zeros (w.setCell ⟨b, k, none⟩ (.int .i64 0)) b t n := by
  obtain ⟨c, h1, h2⟩ := h
  refine ⟨_, block_set h1 _, fun i hi => ?_⟩
  by_cases e : k = i
  · subst e
    rw [Array.getElem?_setIfInBounds_self_of_lt (Array.getElem?_eq_some_iff.1 (h2 k hi)).1]
  · rw [Array.getElem?_setIfInBounds_ne e]; exact h2 i hi
theorem Zeros.far {w : World} {b n : Nat} {t : TypeId} (h : Zeros w b t n) {p : Addr} (hp : b ≠ p.block) (v : Value) : Zeros (w.setCell p v) b t n := by
  obtain ⟨c, h1, h2⟩ := h
  exact ⟨c, (Below.heap_setCell _ _ _ _ hp).trans h1, h2⟩

/-- The state under way. -/
structure Stt (w wr : World) (n : Nat) (pl sh ex mem : Int) : Prop where
  below : Below w.heap.size w wr
  st : wr.heap[w.heap.size + 1]? = some (.cells #[.int .i64 pl, .int .i64 n, .int .i64 sh, .int .i64 0, .int .i64 ex, .int .i64 0, .int .i64 0, .int .i64 mem, .slice (some ⟨w.heap.size + 1 + 1, 0, none⟩) n n, .slice (some ⟨w.heap.size + 1 + 1 + 1, 0, none⟩) n n] 46 (0, 0))
  res : wr.heap[w.heap.size]? = some (.cells #[.int .i64 0, .int .i64 0, .int .i64 0, .int .i64 0, .int .i64 0, .int .i64 0, .int .i64 0, .int .i64 0, .slice none 0 0, .slice none 0 0] 46 (0, 0))
  u : Zeros wr (w.heap.size + 1 + 1) 2 n
  h : Zeros wr (w.heap.size + 1 + 1 + 1) 3 n

section
variable {w wr : World} {n : Nat} {pl sh ex mem : Int}
theorem Stt.drew (h : Stt w wr n pl sh ex mem) : Stt w wr.drew n pl sh ex mem := ⟨h.below.drew, h.st, h.res, h.u, h.h⟩
theorem Stt.setU (h : Stt w wr n pl sh ex mem) (k : Nat) : Stt w (wr.setCell ⟨w.heap.size + 1 + 1, k, none⟩ (.int .i64 0)) n pl sh ex mem :=
  ⟨h.below.setCell (by show _ ≤ w.heap.size + 1 + 1; omega) _, (Below.heap_setCell _ _ _ _ (by show _ ≠ w.heap.size + 1 + 1; omega)).trans h.st, (Below.heap_setCell _ _ _ _ (by show _ ≠ w.heap.size + 1 + 1; omega)).trans h.res, h.u.set0 k, h.h.far (by show _ ≠ w.heap.size + 1 + 1; omega) _⟩
theorem Stt.setH (h : Stt w wr n pl sh ex mem) (k : Nat) : Stt w (wr.setCell ⟨w.heap.size + 1 + 1 + 1, k, none⟩ (.int .i64 0)) n pl sh ex mem :=
  ⟨h.below.setCell (by show _ ≤ w.heap.size + 1 + 1 + 1; omega) _, (Below.heap_setCell _ _ _ _ (by show _ ≠ w.heap.size + 1 + 1 + 1; omega)).trans h.st, (Below.heap_setCell _ _ _ _ (by show _ ≠ w.heap.size + 1 + 1 + 1; omega)).trans h.res, h.u.far (by show _ ≠ w.heap.size + 1 + 1 + 1; omega) _, h.h.set0 k⟩
theorem Zeros.free {b t} (h : Zeros wr b t n) (k : Nat) : wr.frozen? ⟨b, k, none⟩ = false := by
  obtain ⟨c, h1, _⟩ := h
  exact free_of_block h1
end

set_option maxHeartbeats 4000000 in
theorem stateOf_calls (w : World) (nb cb n : Nat) (pl mem sh ex : Int) (hn : n ≤ 65536) (h : Bk w nb cb n mem sh ex) :
    Calls Try.prog 14 #[.int .i64 pl, .pointer (some ⟨nb, 0, none⟩)] w fun e w' => ∃ b1 b2, e = .returned (stV pl n sh ex mem b1 b2 n) ∧ Zeros w' b1 2 n ∧ Zeros w' b2 3 n ∧ Below w.heap.size w w' := by
  have m1 := make_run Try.underlying44 info2 n (by omega)
  have m2 := make_run Try.underlying24 info3 n (by omega)
  have HK : Hid (∀ w', Below w.heap.size w w' → Bk w' nb cb n mem sh ex) := fun w' hb => h.later hb
  have HA : Hid (∀ o, Below w.heap.size w (w.alloc o)) := fun o => (Below.refl _ _).alloc (Nat.le_refl _) _
  clear h
  go_enter Try.func14, Try.ntmps14
  go_wp2_with (first | (go_at_call 19; refine (c19 (HK.out _ (HA.out _))).mono ?_; rintro e w' ⟨rfl, rfl⟩) | (go_at_call 20; refine (c20 (HK.out _ (HA.out _))).mono ?_; rintro e w' ⟨rfl, rfl⟩) | (go_at_call 21; refine (c21 (HK.out _ (HA.out _))).mono ?_; rintro e w' ⟨rfl, rfl⟩) | (go_at_call 22; refine (c22 (HK.out _ (HA.out _))).mono ?_; rintro e w' ⟨rfl, rfl⟩) | (go_at_call 23; refine (c23 (HK.out _ (HA.out _))).mono ?_; rintro e w' ⟨rfl, rfl⟩) | (go_at_call 24; refine (c24 (HK.out _ (HA.out _))).mono ?_; rintro e w' ⟨rfl, rfl⟩))
  clear m1 m2 HA
  go_loopg [7] n (fun j i wr => ∃ k : Nat, k ≤ n ∧ i = .int .i64 k ∧ j = n - k ∧ Stt w wr n pl sh ex mem)
  case atStart =>
    refine ⟨0, Nat.zero_le _, rfl, rfl, ⟨?_, ?_, ?_, ?_, ?_⟩⟩
    · exact ((((Below.refl _ _).alloc (Nat.le_refl _) _).alloc (by simp) _).alloc (by simp; omega) _).alloc (by simp; omega) _
    · exact (Below.heap_alloc _ _ _ (by simp)).trans ((Below.heap_alloc _ _ _ (by simp)).trans (new_block0 _ _ _ (by simp)))
    · exact (Below.heap_alloc _ _ _ (by simp; omega)).trans ((Below.heap_alloc _ _ _ (by simp; omega)).trans ((Below.heap_alloc _ _ _ (by simp)).trans (new_block0 _ _ _ rfl)))
    · exact ⟨_, (Below.heap_alloc _ _ _ (by simp)).trans (new_block0 _ _ _ (by simp)), (zrow_one (.int .i64 0) _ rfl).2⟩
    · exact ⟨_, new_block0 _ _ _ (by simp), (zrow_one (.int .i64 0) _ rfl).2⟩
  case round =>
    obtain ⟨k, hk, rfl, hgk, hst⟩ := hrel
    have HC : Hid (Stt w wr n pl sh ex mem ∧ gk = n - k) := ⟨hst, hgk⟩
    clear hgk
    by_cases hlt : k < n
    · have hki : (k : Int) < n := by omega
      have HS : Hid (∀ w', Stt w w' n pl sh ex mem → (Stt w w' n pl sh ex mem ∧ w'.cell? ⟨w.heap.size + 1, 8, none⟩ = some (.slice (some ⟨w.heap.size + 1 + 1, 0, none⟩) n n) ∧ w'.cell? ⟨w.heap.size + 1, 9, none⟩ = some (.slice (some ⟨w.heap.size + 1 + 1 + 1, 0, none⟩) n n) ∧ w'.cell? ⟨w.heap.size + 1 + 1, k, none⟩ = some (.int .i64 0) ∧ w'.cell? ⟨w.heap.size + 1 + 1 + 1, k, none⟩ = some (.int .i64 0) ∧ w'.frozen? ⟨w.heap.size + 1 + 1, k, none⟩ = false ∧ w'.frozen? ⟨w.heap.size + 1 + 1 + 1, k, none⟩ = false)) := fun w' hs => ⟨hs, cell_of_block hs.st rfl, cell_of_block hs.st rfl, hs.u.at k hlt, hs.h.at k hlt, hs.u.free k, hs.h.free k⟩
      obtain ⟨-, s1, s2, s3, s4, s5, s6⟩ := HS.out wr hst
      clear hst
      go_wp2_with fail
      go_region_held3 (fun w' => Stt w w' n pl sh ex mem ∧ w'.cell? ⟨w.heap.size + 1, 8, none⟩ = some (.slice (some ⟨w.heap.size + 1 + 1, 0, none⟩) n n) ∧ w'.cell? ⟨w.heap.size + 1, 9, none⟩ = some (.slice (some ⟨w.heap.size + 1 + 1 + 1, 0, none⟩) n n) ∧ w'.cell? ⟨w.heap.size + 1 + 1, k, none⟩ = some (.int .i64 0) ∧ w'.cell? ⟨w.heap.size + 1 + 1 + 1, k, none⟩ = some (.int .i64 0) ∧ w'.frozen? ⟨w.heap.size + 1 + 1, k, none⟩ = false ∧ w'.frozen? ⟨w.heap.size + 1 + 1 + 1, k, none⟩ = false)
        (first | exact HS.out _ HC.out.1.drew | exact HS.out _ (And.left ‹Stt _ _ _ _ _ _ _ ∧ _›) | exact HS.out _ (Stt.setU (And.left ‹Stt _ _ _ _ _ _ _ ∧ _›) k))
        (first | (go_at_call 25; refine (c25 (HK.out _ (And.left ‹Stt _ _ _ _ _ _ _ ∧ _›).below) k hlt).mono ?_; rintro e w' ⟨rfl, rfl⟩))
      obtain ⟨hq, -⟩ := ‹Stt _ _ _ _ _ _ _ ∧ _›
      generalize (wr.setCell ⟨w.heap.size + 1 + 1, k, none⟩ (.int .i64 0)).drew = wx at hq ⊢
      have HQ : Hid (Stt w wx n pl sh ex mem) := hq
      clear s1 s2 s3 s4 s5 s6
      obtain ⟨-, s1, s2, s3, s4, s5, s6⟩ := HS.out wx hq
      clear hq
      go_wp2_with fail
      go_region_held3 (fun w' => Stt w w' n pl sh ex mem ∧ w'.cell? ⟨w.heap.size + 1, 8, none⟩ = some (.slice (some ⟨w.heap.size + 1 + 1, 0, none⟩) n n) ∧ w'.cell? ⟨w.heap.size + 1, 9, none⟩ = some (.slice (some ⟨w.heap.size + 1 + 1 + 1, 0, none⟩) n n) ∧ w'.cell? ⟨w.heap.size + 1 + 1, k, none⟩ = some (.int .i64 0) ∧ w'.cell? ⟨w.heap.size + 1 + 1 + 1, k, none⟩ = some (.int .i64 0) ∧ w'.frozen? ⟨w.heap.size + 1 + 1, k, none⟩ = false ∧ w'.frozen? ⟨w.heap.size + 1 + 1 + 1, k, none⟩ = false)
        (first | exact HS.out _ HQ.out.drew | exact HS.out _ (And.left ‹Stt _ _ _ _ _ _ _ ∧ _›) | exact HS.out _ (Stt.setH (And.left ‹Stt _ _ _ _ _ _ _ ∧ _›) k))
        (first | (go_at_call 26; refine (c26 (HK.out _ (And.left ‹Stt _ _ _ _ _ _ _ ∧ _›).below) k hlt).mono ?_; rintro e w' ⟨rfl, rfl⟩))
      obtain ⟨hq, -⟩ := ‹Stt _ _ _ _ _ _ _ ∧ _›
      generalize (wx.setCell ⟨w.heap.size + 1 + 1 + 1, k, none⟩ (.int .i64 0)).drew = wy at hq ⊢
      have HR : Hid (Stt w wy n pl sh ex mem) := hq
      clear s1 s2 s3 s4 s5 s6 hq
      go_wp2_with fail
      refine (c27 (HK.out _ HR.out.below) k hlt).mono ?_
      rintro e w' ⟨rfl, rfl⟩
      go_wp2_with fail
      go_roundg (n - (k + 1))
      case measure => have := HC.out.2; omega
      case rel => exact ⟨k + 1, by omega, by go_num, rfl, HR.out⟩
    · obtain ⟨hs1, hs2, hs3, hs4, hs5⟩ := hst
      have t0 := cell_of_block (o := 0) hs2 rfl
      have t1 := cell_of_block (o := 1) hs2 rfl
      have t2 := cell_of_block (o := 2) hs2 rfl
      have t3 := cell_of_block (o := 3) hs2 rfl
      have t4 := cell_of_block (o := 4) hs2 rfl
      have t5 := cell_of_block (o := 5) hs2 rfl
      have t6 := cell_of_block (o := 6) hs2 rfl
      have t7 := cell_of_block (o := 7) hs2 rfl
      have t8 := cell_of_block (o := 8) hs2 rfl
      have t9 := cell_of_block (o := 9) hs2 rfl
      have r0 := cell_of_block (o := 0) hs3 rfl
      have r1 := cell_of_block (o := 1) hs3 rfl
      have r2 := cell_of_block (o := 2) hs3 rfl
      have r3 := cell_of_block (o := 3) hs3 rfl
      have r4 := cell_of_block (o := 4) hs3 rfl
      have r5 := cell_of_block (o := 5) hs3 rfl
      have r6 := cell_of_block (o := 6) hs3 rfl
      have r7 := cell_of_block (o := 7) hs3 rfl
      have r8 := cell_of_block (o := 8) hs3 rfl
      have r9 := cell_of_block (o := 9) hs3 rfl
      have fz : ∀ o, wr.frozen? ⟨w.heap.size, o, none⟩ = false := fun o => free_of_block hs3
      have hl : w.heap.size + 1 < wr.heap.size := lt_of_heap hs2
      have hl' : w.heap.size < wr.heap.size := by omega
      clear hs1 hs2 hs3 hs4 hs5
      go_wp2
      have z1 : Zeros wr (w.heap.size + 1 + 1) 2 n := HC.out.1.u
      have z2 : Zeros wr (w.heap.size + 1 + 1 + 1) 3 n := HC.out.1.h
      have n1 : w.heap.size + 1 + 1 ≠ w.heap.size := by omega
      have n2 : w.heap.size + 1 + 1 + 1 ≠ w.heap.size := by omega
      have bb := HC.out.1.below
      refine bodyPost_ret (v := stV pl n sh ex mem (w.heap.size + 1 + 1) (w.heap.size + 1 + 1 + 1) n) ?_ rfl ⟨_, _, rfl, ?_, ?_, ?_⟩
      · clear z1 z2 HC HK
        simp [results, Try.results14, go_sem, stV, *]
      · exact (((((((((z1.far n1 _).far n1 _).far n1 _).far n1 _).far n1 _).far n1 _).far n1 _).far n1 _).far n1 _).far n1 _
      · exact (((((((((z2.far n2 _).far n2 _).far n2 _).far n2 _).far n2 _).far n2 _).far n2 _).far n2 _).far n2 _).far n2 _
      · exact (((((((((bb.setCell (Nat.le_refl _) _).setCell (Nat.le_refl _) _).setCell (Nat.le_refl _) _).setCell (Nat.le_refl _) _).setCell (Nat.le_refl _) _).setCell (Nat.le_refl _) _).setCell (Nat.le_refl _) _).setCell (Nat.le_refl _) _).setCell (Nat.le_refl _) _).setCell (Nat.le_refl _) _
end Go.Proofs.Qxb6609193a
