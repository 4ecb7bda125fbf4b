import Derived.Test.Qxb6612720aLists
namespace Go.Proofs.Qxb6612720a
open Go.RowKit
set_option maxRecDepth 100000

/-- A slice of windows: pairs of int64. -/
def WinIn (w : World) (a : Option Addr) (ws : List (Int × Int)) : Prop :=
  ws = [] ∨ ∃ b off, a = some ⟨b, off, none⟩ ∧ ∀ i (h : i < ws.length), w.cell? ⟨b, off + i * 2, none⟩ = some (.int .i64 (ws[i]).1) ∧ w.cell? ⟨b, off + i * 2 + 1, none⟩ = some (.int .i64 (ws[i]).2)

/-- A slice of listed entries: type, identifier, refs. -/
def ListedIn (w : World) (a : Option Addr) (ls : List (ByteArray × ByteArray × List (Int × Int))) : Prop :=
  ls = [] ∨ ∃ b off, a = some ⟨b, off, none⟩ ∧ ∀ i (h : i < ls.length), w.cell? ⟨b, off + i * 3, none⟩ = some (.string (ls[i]).1) ∧ w.cell? ⟨b, off + i * 3 + 1, none⟩ = some (.string (ls[i]).2.1) ∧
    ∃ ra cap, w.cell? ⟨b, off + i * 3 + 2, none⟩ = some (.slice ra (ls[i]).2.2.length cap) ∧ RefsIn w ra (ls[i]).2.2

/-- A slice of unlisted entries: type, refs. -/
def UnlistedIn (w : World) (a : Option Addr) (us : List (ByteArray × List (Int × Int))) : Prop :=
  us = [] ∨ ∃ b off, a = some ⟨b, off, none⟩ ∧ ∀ i (h : i < us.length), w.cell? ⟨b, off + i * 2, none⟩ = some (.string (us[i]).1) ∧
    ∃ ra cap, w.cell? ⟨b, off + i * 2 + 1, none⟩ = some (.slice ra (us[i]).2.length cap) ∧ RefsIn w ra (us[i]).2

theorem cell_later {w w' : World} (hb : Below w.heap.size w w') {b o : Nat} {v : Value} (h : w.cell? ⟨b, o, none⟩ = some v) : w'.cell? ⟨b, o, none⟩ = some v :=
  (hb.cell (World.block_lt_of_cell? w ⟨b, o, none⟩ h)).trans h

theorem WinIn.later {w w' : World} {a : Option Addr} {ws : List (Int × Int)} (h : WinIn w a ws) (hb : Below w.heap.size w w') : WinIn w' a ws := by
  rcases h with h | ⟨b, off, ha, h⟩
  · exact Or.inl h
  · exact Or.inr ⟨b, off, ha, fun i hi => ⟨cell_later hb (h i hi).1, cell_later hb (h i hi).2⟩⟩
theorem ListedIn.later {w w' : World} {a : Option Addr} {ls : List (ByteArray × ByteArray × List (Int × Int))} (h : ListedIn w a ls) (hb : Below w.heap.size w w') : ListedIn w' a ls := by
  rcases h with h | ⟨b, off, ha, h⟩
  · exact Or.inl h
  · refine Or.inr ⟨b, off, ha, fun i hi => ?_⟩
    obtain ⟨h1, h2, ra, cap, h3, h4⟩ := h i hi
    exact ⟨cell_later hb h1, cell_later hb h2, ra, cap, cell_later hb h3, h4.later hb⟩
theorem UnlistedIn.later {w w' : World} {a : Option Addr} {us : List (ByteArray × List (Int × Int))} (h : UnlistedIn w a us) (hb : Below w.heap.size w w') : UnlistedIn w' a us := by
  rcases h with h | ⟨b, off, ha, h⟩
  · exact Or.inl h
  · refine Or.inr ⟨b, off, ha, fun i hi => ?_⟩
    obtain ⟨h1, ra, cap, h3, h4⟩ := h i hi
    exact ⟨cell_later hb h1, ra, cap, cell_later hb h3, h4.later hb⟩
end Go.Proofs.Qxb6612720a
