import Derived.Test.Qxb6612720aNum
import Derived.Test.Qxb6612720aIn
namespace Go.Proofs.Qxb6612720a
open Go.RowKit
set_option maxRecDepth 100000

theorem info105 : (Try.prog.info? 105).map (fun i => (i.zero, i.size, i.bytes)) = some (some (.agg #[.int .i64 0, .int .i64 0, .int .i64 0, .slice none 0 0, .slice none 0 0]), 5, 72) := by kernel_rfl
theorem info70 : (Try.prog.info? 70).map (fun i => (i.zero, i.size, i.bytes)) = some (some (.slice none 0 0), 1, 24) := by kernel_rfl
theorem info9 : (Try.prog.info? 9).map (fun i => (i.zero, i.size, i.bytes)) = some (some (.string ⟨#[]⟩), 1, 16) := by kernel_rfl
theorem info87 : (Try.prog.info? 87).map (fun i => (i.zero, i.size, i.bytes)) = some (some (.slice none 0 0), 1, 24) := by kernel_rfl
theorem info2 : (Try.prog.info? 2).map (fun i => (i.zero, i.size, i.bytes)) = some (some (.int .i64 0), 1, 8) := by kernel_rfl

/-- What 'ZZNumber' is handed. -/
structure ZIn (w : World) (bN bA bT bI bS bG bV bX bY : Nat) (ws : List (Int × Int)) (ls : List (ByteArray × ByteArray × List (Int × Int))) (us : List (ByteArray × List (Int × Int))) : Prop where
  n : ∀ i, i < ws.length → w.cell? ⟨bN, i, none⟩ = some (.int .i64 (ws.getD i (0, 0)).1)
  a : ∀ i, i < ws.length → w.cell? ⟨bA, i, none⟩ = some (.int .i64 (ws.getD i (0, 0)).2)
  t : ∀ i (h : i < ls.length), w.cell? ⟨bT, i, none⟩ = some (.string (ls[i]).1)
  i : ∀ i (h : i < ls.length), w.cell? ⟨bI, i, none⟩ = some (.string (ls[i]).2.1)
  s : ∀ i (h : i < ls.length), ∃ ra, w.cell? ⟨bS, i, none⟩ = some (.slice ra (ls[i]).2.2.length (ls[i]).2.2.length) ∧ IntsIn w ra ((ls[i]).2.2.map (·.1))
  g : ∀ i (h : i < ls.length), ∃ ra, w.cell? ⟨bG, i, none⟩ = some (.slice ra (ls[i]).2.2.length (ls[i]).2.2.length) ∧ IntsIn w ra ((ls[i]).2.2.map (·.2))
  v : ∀ i (h : i < us.length), w.cell? ⟨bV, i, none⟩ = some (.string (us[i]).1)
  x : ∀ i (h : i < us.length), ∃ ra, w.cell? ⟨bX, i, none⟩ = some (.slice ra (us[i]).2.length (us[i]).2.length) ∧ IntsIn w ra ((us[i]).2.map (·.1))
  y : ∀ i (h : i < us.length), ∃ ra, w.cell? ⟨bY, i, none⟩ = some (.slice ra (us[i]).2.length (us[i]).2.length) ∧ IntsIn w ra ((us[i]).2.map (·.2))

/-- The data are fit. -/
structure Good (ws : List (Int × Int)) (ls : List (ByteArray × ByteArray × List (Int × Int))) (us : List (ByteArray × List (Int × Int))) : Prop where
  s : ws.length ≤ 65536
  l : ls.length ≤ 65536
  u : us.length ≤ 65536
  l1 : ∀ k (h : k < ls.length), wfS (ls[k]).1 (ls[k]).2.1 ∧ (ls[k]).2.2.all (inN ws.length) = true ∧ ∀ r ∈ (ls[k]).2.2, wfI r.1 r.2
  u1 : ∀ k (h : k < us.length), (us[k]).1.size ≤ maxLen ∧ (us[k]).2.all (inN ws.length) = true ∧ ∀ r ∈ (us[k]).2, wfI r.1 r.2
  lt : (ls.flatMap (·.2.2)).length ≤ 100000
  ut : (us.flatMap (·.2)).length ≤ 100000
  ld : ∀ i j (hi : i < ls.length) (hj : j < ls.length), j < i → ¬ ((ls[i]).1 = (ls[j]).1 ∧ (ls[i]).2.1 = (ls[j]).2.1)
  ud : ∀ i j (hi : i < us.length) (hj : j < us.length), j < i → (us[i]).1 ≠ (us[j]).1

/-- The stored sets under way. -/
def CpS (w : World) (SB : Nat) (ws : List (Int × Int)) (k : Nat) : Prop :=
  ∃ c : Array Value, w.heap[SB]? = some (.cells c 105 (0, 0)) ∧ c.size = ws.length * 5 ∧ ∀ i, i < ws.length → i < k → c[i * 5]? = some (.int .i64 (ws.getD i (0, 0)).1) ∧ c[i * 5 + 1]? = some (.int .i64 (ws.getD i (0, 0)).2)

theorem CpS.step {w : World} {SB : Nat} {ws : List (Int × Int)} {k : Nat} (h : CpS w SB ws k) (hk : k < ws.length) (x y z : Value) :
    CpS (((((w.setCell ⟨SB, k * 5, none⟩ (.int .i64 (ws.getD k (0, 0)).1)).setCell ⟨SB, k * 5 + 1, none⟩ (.int .i64 (ws.getD k (0, 0)).2)).setCell ⟨SB, k * 5 + 2, none⟩ x).setCell ⟨SB, k * 5 + 3, none⟩ y).setCell ⟨SB, k * 5 + 4, none⟩ z) SB ws (k + 1) := by
  obtain ⟨c, h1, h2, h3⟩ := h
  refine ⟨_, block_set (block_set (block_set (block_set (block_set h1 _) _) _) _) _, by simp [h2], fun i hi hik => ?_⟩
  by_cases e : i = k
  · subst e
    refine ⟨?_, ?_⟩
    · rw [Array.getElem?_setIfInBounds_ne (by omega), Array.getElem?_setIfInBounds_ne (by omega), Array.getElem?_setIfInBounds_ne (by omega), Array.getElem?_setIfInBounds_ne (by omega), Array.getElem?_setIfInBounds_self_of_lt (by omega)]
    · rw [Array.getElem?_setIfInBounds_ne (by omega), Array.getElem?_setIfInBounds_ne (by omega), Array.getElem?_setIfInBounds_ne (by omega), Array.getElem?_setIfInBounds_self_of_lt (by simp; omega)]
  · refine ⟨?_, ?_⟩
    · rw [Array.getElem?_setIfInBounds_ne (by omega), Array.getElem?_setIfInBounds_ne (by omega), Array.getElem?_setIfInBounds_ne (by omega), Array.getElem?_setIfInBounds_ne (by omega), Array.getElem?_setIfInBounds_ne (by omega)]
      exact (h3 i hi (by omega)).1
    · rw [Array.getElem?_setIfInBounds_ne (by omega), Array.getElem?_setIfInBounds_ne (by omega), Array.getElem?_setIfInBounds_ne (by omega), Array.getElem?_setIfInBounds_ne (by omega), Array.getElem?_setIfInBounds_ne (by omega)]
      exact (h3 i hi (by omega)).2

/-- The listed lists, the last first. -/
def lkL (ls : List (ByteArray × ByteArray × List (Int × Int))) (k : Nat) : List (Lit × List (Int × Int)) := ((ls.take k).map fun e => (klS e.1 e.2.1, e.2.2)).reverse
def lkU (us : List (ByteArray × List (Int × Int))) (k : Nat) : List (Lit × List (Int × Int)) := ((us.take k).map fun e => (klT e.1, e.2)).reverse
theorem lkL_next {ls : List (ByteArray × ByteArray × List (Int × Int))} {k : Nat} (h : k < ls.length) : lkL ls (k + 1) = (klS (ls[k]).1 (ls[k]).2.1, (ls[k]).2.2) :: lkL ls k := by
  unfold lkL
  rw [List.take_succ_eq_append_getElem h, List.map_append, List.reverse_append]
  rfl
theorem lkU_next {us : List (ByteArray × List (Int × Int))} {k : Nat} (h : k < us.length) : lkU us (k + 1) = (klT (us[k]).1, (us[k]).2) :: lkU us k := by
  unfold lkU
  rw [List.take_succ_eq_append_getElem h, List.map_append, List.reverse_append]
  rfl
theorem mem_lkL {ls : List (ByteArray × ByteArray × List (Int × Int))} {k : Nat} {x : Lit × List (Int × Int)} : x ∈ lkL ls k ↔ ∃ i, ∃ h : i < ls.length, i < k ∧ x = (klS (ls[i]).1 (ls[i]).2.1, (ls[i]).2.2) := by
  unfold lkL
  rw [List.mem_reverse, List.mem_map]
  constructor
  · rintro ⟨e, he, rfl⟩
    obtain ⟨i, hi, rfl⟩ := List.getElem_of_mem he
    simp at hi
    exact ⟨i, by omega, by omega, by simp⟩
  · rintro ⟨i, hi, hik, rfl⟩
    exact ⟨ls[i], by rw [List.mem_take_iff_getElem]; exact ⟨i, by omega, rfl⟩, rfl⟩
theorem mem_lkU {us : List (ByteArray × List (Int × Int))} {k : Nat} {x : Lit × List (Int × Int)} : x ∈ lkU us k ↔ ∃ i, ∃ h : i < us.length, i < k ∧ x = (klT (us[i]).1, (us[i]).2) := by
  unfold lkU
  rw [List.mem_reverse, List.mem_map]
  constructor
  · rintro ⟨e, he, rfl⟩
    obtain ⟨i, hi, rfl⟩ := List.getElem_of_mem he
    simp at hi
    exact ⟨i, by omega, by omega, by simp⟩
  · rintro ⟨i, hi, hik, rfl⟩
    exact ⟨us[i], by rw [List.mem_take_iff_getElem]; exact ⟨i, by omega, rfl⟩, rfl⟩
theorem lkL_fresh {ws : List (Int × Int)} {ls : List (ByteArray × ByteArray × List (Int × Int))} {us : List (ByteArray × List (Int × Int))} (G : Good ws ls us) {k : Nat} (hk : k < ls.length) {rs : List (Int × Int)} : (klS (ls[k]).1 (ls[k]).2.1, rs) ∉ lkL ls k := by
  intro h
  obtain ⟨i, hi, hik, e⟩ := mem_lkL.1 h
  obtain ⟨e1, e2⟩ := klS_inj (G.l1 k hk).1 (G.l1 i hi).1 (congrArg Prod.fst e)
  exact G.ld k i hk hi hik ⟨e1, e2⟩
theorem lkU_fresh {ws : List (Int × Int)} {ls : List (ByteArray × ByteArray × List (Int × Int))} {us : List (ByteArray × List (Int × Int))} (G : Good ws ls us) {k : Nat} (hk : k < us.length) {rs : List (Int × Int)} : (klT (us[k]).1, rs) ∉ lkU us k := by
  intro h
  obtain ⟨i, hi, hik, e⟩ := mem_lkU.1 h
  exact G.ud k i hk hi hik (klT_inj (G.u1 k hk).1 (G.u1 i hi).1 (congrArg Prod.fst e))

/-- A list more. -/
theorem LsIn.store {w : World} {KT t e : TypeId} {FB n Bd N : Nat} {D : DataW Value} {m : List (Lit × Value)} {L : List (Lit × List (Int × Int))} {rs : List (Int × Int)} {kv : Value} {kl : Lit} (h : LsIn w KT FB n Bd D m L) (K : Maps.Keyed Try.prog KT) (ht : Try.prog.underlying t = some (.map KT e)) (hn : n < maxLen) (hk : keyOf Try.prog KT kv = some kl) (hnew : ∀ rs', (kl, rs') ∉ L) (hcp : CpR w N rs rs.length) :
    ∃ w' D', (Instr.mapUpdate t (.map (some FB)) kv (.slice (some ⟨N, 0, none⟩) rs.length rs.length)).run Try.prog w = .ok () w' ∧ LsIn w' KT FB (n + 1) w'.heap.size D' ((kl, .slice (some ⟨N, 0, none⟩) rs.length rs.length) :: m) ((kl, rs) :: L) ∧ w.mapTurned w' FB := by
  have hno : ∀ y, (kl, y) ∉ m := fun y hy => by
    obtain ⟨rs', N', h1, _⟩ := h.val _ hy
    exact hnew rs' h1
  obtain ⟨w', hrun, hm, hturn⟩ := h.map.store (v := .slice (some ⟨N, 0, none⟩) rs.length rs.length) K ht hn hk hno
  refine ⟨w', _, hrun, ⟨hm, fun x hx => ?_, fun x hx => ?_, fun kl' r1 r2 h1 h2 => ?_⟩, hturn⟩
  · rcases List.mem_cons.1 hx with rfl | hx
    · exact ⟨rs, N, List.mem_cons_self, rfl, hcp.turned hturn, (hcp.turned hturn).lt⟩
    · obtain ⟨rs', N', h1, h2, h3, _⟩ := h.val x hx
      exact ⟨rs', N', List.mem_cons_of_mem _ h1, h2, h3.turned hturn, (h3.turned hturn).lt⟩
  · rcases List.mem_cons.1 hx with rfl | hx
    · exact ⟨_, List.mem_cons_self⟩
    · obtain ⟨v, hv⟩ := h.all x hx
      exact ⟨v, List.mem_cons_of_mem _ hv⟩
  · rcases List.mem_cons.1 h1 with e1 | h1
    · rcases List.mem_cons.1 h2 with e2 | h2
      · rw [(Prod.mk.inj e1).2, (Prod.mk.inj e2).2]
      · rw [(Prod.mk.inj e1).1] at h2
        exact absurd h2 (hnew _)
    · rcases List.mem_cons.1 h2 with e2 | h2
      · rw [(Prod.mk.inj e2).1] at h1
        exact absurd h1 (hnew _)
      · exact h.fn _ _ _ h1 h2

theorem LsIn.bd {w : World} {KT : TypeId} {FB n Bd : Nat} {D : DataW Value} {m : List (Lit × Value)} {L : List (Lit × List (Int × Int))} (h : LsIn w KT FB n Bd D m L) : LsIn w KT FB n w.heap.size D m L := by
  refine ⟨h.map, fun e he => ?_, h.all, h.fn⟩
  obtain ⟨rs, N, h1, h2, h3, h4⟩ := h.val e he
  exact ⟨rs, N, h1, h2, h3, h3.lt⟩
theorem LsIn.turned {w w' : World} {KT : TypeId} {FB n Bd mb : Nat} {D : DataW Value} {m : List (Lit × Value)} {L : List (Lit × List (Int × Int))} (h : LsIn w KT FB n Bd D m L) (ht : w.mapTurned w' mb) (hne : FB ≠ mb) : LsIn w' KT FB n Bd D m L := by
  refine ⟨h.map.kept (map_other ht h.map.own.lt hne), fun e he => ?_, h.all, h.fn⟩
  obtain ⟨rs, N, h1, h2, h3, h4⟩ := h.val e he
  exact ⟨rs, N, h1, h2, h3.turned ht, h4⟩
end Go.Proofs.Qxb6612720a
