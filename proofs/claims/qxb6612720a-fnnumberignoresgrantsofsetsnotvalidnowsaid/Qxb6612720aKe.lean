import Derived.Test.Qxb6612720aFnd
namespace Go.Proofs.Qxb6612720a
open Go.RowKit
set_option maxRecDepth 100000

/-- All that was there is as it was, but for block E. -/
structure Ke (E : Nat) (w w' : World) : Prop where
  os : w'.os = w.os
  tape : w'.tape = w.tape
  output : w'.output = w.output
  size : w.heap.size ≤ w'.heap.size
  block : ∀ k, k < w.heap.size → k ≠ E → w'.heap[k]? = w.heap[k]?

theorem Ke.of_below {E : Nat} {w w' : World} (h : Below w.heap.size w w') : Ke E w w' := ⟨h.os, h.tape, h.output, h.size, fun k hk _ => h.block k hk⟩
theorem Ke.below {E : Nat} {w a b : World} (h : Ke E w a) (k : Below w.heap.size a b) : Ke E w b := ⟨k.os.trans h.os, k.tape.trans h.tape, k.output.trans h.output, Nat.le_trans h.size k.size, fun i hi he => (k.block i hi).trans (h.block i hi he)⟩
theorem Ke.kp {E MB : Nat} {w a b : World} (h : Ke E w a) (k : Kp w.heap.size E MB a b) (hM : w.heap.size ≤ MB) : Ke E w b :=
  ⟨k.os.trans h.os, k.tape.trans h.tape, k.output.trans h.output, Nat.le_trans h.size k.size, fun i hi he => (k.block i (Nat.lt_of_lt_of_le hi h.size) he (by omega) (fun hB => absurd hB (by omega))).trans (h.block i hi he)⟩

theorem LsIn.ke {w w' : World} {KT : TypeId} {FB n Bd E : Nat} {D : DataW Value} {m : List (Lit × Value)} {L : List (Lit × List (Int × Int))} (h : LsIn w KT FB n Bd D m L) (hk : Ke E w w') {cE : Array Value} (hE : w.heap[E]? = some (.cells cE 102 (0, 0))) : LsIn w' KT FB n Bd D m L := by
  have hF : FB ≠ E := by
    obtain ⟨es, clock, hb, _⟩ := h.map.own
    rintro rfl
    rw [hE] at hb
    cases hb
  refine ⟨h.map.kept (hk.block _ h.map.own.lt hF), fun e he => ?_, h.all, h.fn⟩
  obtain ⟨rs, N, h1, h2, h3, h4⟩ := h.val e he
  refine ⟨rs, N, h1, h2, h3.kept (hk.block _ h3.lt ?_), h4⟩
  obtain ⟨c, h5, _⟩ := h3
  exact apart h5 hE (by decide)

theorem ranges_same {w w' : World} {KT : TypeId} {mb r n cnt : Nat} {D : DataW Value} {left : Lit → Bool} (h : w.ranges Try.prog KT rawR mb r n D left cnt) (h1 : w'.heap[mb]? = w.heap[mb]?) (h2 : w'.heap[r]? = w.heap[r]?) : w'.ranges Try.prog KT rawR mb r n D left cnt := by
  obtain ⟨es, clock, since, seen, c0, q1, q2, q3, q4, q5, q6⟩ := h
  exact ⟨es, clock, since, seen, c0, h1.trans q1, q2, q3, q4, h2.trans q5, q6⟩

theorem ranges_kp {w w' : World} {KT : TypeId} {mb r n cnt B E MB : Nat} {D : DataW Value} {left : Lit → Bool} (h : w.ranges Try.prog KT rawR mb r n D left cnt) (hk : Kp B E MB w w') (hE : mb ≠ E) (hM : mb ≠ MB) (hmb : mb < B) (hEB : E < B) (hrB : B ≤ r) (hnum : ∃ es cl, w.heap[MB]? = some (.map es cl)) : w'.ranges Try.prog KT rawR mb r n D left cnt := by
  obtain ⟨a, b, c, d, hi⟩ := ranges_iter h
  refine ranges_same h (hk.block mb h.owns.lt hE hM (fun hB => absurd hB (by omega))) (hk.block r h.lt (by omega) ?_ (fun _ cs e => ?_))
  · rintro rfl
    obtain ⟨es, cl, e⟩ := hnum
    rw [hi] at e
    cases e
  · rw [hi] at e
    cases e

theorem NumIn.obj {w : World} {MB n : Nat} {R : List (Int × Int)} (h : NumIn w MB n R) : ∃ es cl, w.heap[MB]? = some (.map es cl) := by
  obtain ⟨D, m, h1, _⟩ := h
  obtain ⟨es, clock, hb, _⟩ := h1.own
  exact ⟨es, clock, hb⟩

theorem NumIn.tight {w : World} {MB n : Nat} {R : List (Int × Int)} (h : NumIn w MB n R) : NumIn w MB R.length R := by
  obtain ⟨D, m, h1, h2, h3⟩ := h
  refine ⟨D, m, ⟨?_, h1.dom, h1.at_, h1.nodup⟩, h2, h3⟩
  obtain ⟨es, clock, hb, F, hs, hD⟩ := h1.own
  refine ⟨es, clock, hb, F, ?_, hD⟩
  rw [← h2, hD]
  simp [Maps.size, length_sorted]
theorem NSt.tight {w : World} {E PE PN PW MB SB B : Nat} {q p : Value} {ws : List (Int × Int)} {now : Int} {R : List (Int × Int)} {n : Nat} (h : NSt w E PE PN PW MB SB B q p ws now R n) : NSt w E PE PN PW MB SB B q p ws now R R.length :=
  ⟨h.e, h.pe, h.pn, h.pw, h.sets, h.num.tight, h.mb, h.nd, h.wf⟩

theorem NSt.iter {w w' : World} {E PE PN PW MB SB B r : Nat} {q p : Value} {ws : List (Int × Int)} {now : Int} {R : List (Int × Int)} {n : Nat} {a b c d} (h : NSt w E PE PN PW MB SB B q p ws now R n) (hg : w.grownBy w' (some r)) (hr : w.heap[r]? = some (.mapIter a b c d)) : NSt w' E PE PN PW MB SB B q p ws now R n := by
  obtain ⟨⟨rv, h1, h2⟩, h3, h4, h5, ⟨cs, h6, h6'⟩, h7, h8, h9, h10⟩ := h
  refine ⟨⟨rv, iter_block hg hr h1, h2.1, ?_⟩, iter_block hg hr h3, iter_block hg hr h4, iter_block hg hr h5, ⟨cs, iter_block hg hr h6, h6'⟩, ?_, h8, h9, h10⟩
  · rcases h2.2 with e1 | ⟨g, cap, cur, e1, e2, e3, e4⟩
    · exact Or.inl e1
    · exact Or.inr ⟨g, cap, cur, e1, e2, iter_block hg hr e3, e4⟩
  · refine h7.kept (hg.block MB h7.lt (fun e => ?_))
    obtain ⟨es, cl, e2⟩ := h7.obj
    rw [Option.some.inj e, hr] at e2
    cases e2

theorem length_sub {R : List (Int × Int)} : ∀ {T : List (Int × Int)}, R.Nodup → (∀ x ∈ R, x ∈ T) → R.length ≤ T.length := by
  induction R with
  | nil => intro T _ _; simp
  | cons x R ih =>
    intro T hnd hs
    rw [List.nodup_cons] at hnd
    have hx : x ∈ T := hs x (by simp)
    have h1 : R.length ≤ (T.erase x).length := ih hnd.2 (fun y hy => (List.mem_erase_of_ne (fun e => hnd.1 (by rw [← e]; exact hy))).2 (hs y (by simp [hy])))
    rw [List.length_erase_of_mem hx] at h1
    have := List.length_pos_of_mem hx
    simp only [List.length_cons]
    omega

theorem length_in {L : List (Lit × List (Int × Int))} {x : Lit × List (Int × Int)} (hx : x ∈ L) : x.2.length ≤ (L.flatMap (·.2)).length := by
  induction L with
  | nil => simp at hx
  | cons y L ih =>
    rw [List.flatMap_cons, List.length_append]
    rcases List.mem_cons.1 hx with rfl | hx
    · omega
    · have := ih hx
      omega

/-- The refs after some of the lists of L, R0 having been there before. -/
def Cov (ok : Int × Int → Bool) (R0 : Int × Int → Prop) (L : List (Lit × List (Int × Int))) (left : Lit → Bool) (R : List (Int × Int)) : Prop :=
  ∀ x, x ∈ R ↔ R0 x ∨ ((∃ l ∈ L, left l.1 = false ∧ x ∈ l.2) ∧ ok x = true)

theorem Cov.next {ok : Int × Int → Bool} {R0 : Int × Int → Prop} {L : List (Lit × List (Int × Int))} {left : Lit → Bool} {R rs : List (Int × Int)} {kl : Lit} (h : Cov ok R0 L left R) (hin : (kl, rs) ∈ L) (hfn : ∀ kl rs rs', (kl, rs) ∈ L → (kl, rs') ∈ L → rs = rs') (hs : kl.sameKey kl = true) : Cov ok R0 L (fun z => left z && !z.sameKey kl) (gather ok R rs) := by
  intro x
  rw [mem_gather, h x]
  constructor
  · rintro ((h1 | ⟨⟨l, h1, h2, h3⟩, h4⟩) | ⟨h1, h2⟩)
    · exact Or.inl h1
    · exact Or.inr ⟨⟨l, h1, by simp [h2], h3⟩, h4⟩
    · exact Or.inr ⟨⟨_, hin, by simp [hs], h1⟩, h2⟩
  · rintro (h1 | ⟨⟨l, h1, h2, h3⟩, h4⟩)
    · exact Or.inl (Or.inl h1)
    · rcases left_off h2 with h5 | h5
      · exact Or.inl (Or.inr ⟨⟨l, h1, h5, h3⟩, h4⟩)
      · refine Or.inr ⟨?_, h4⟩
        rw [← hfn kl l.2 rs (by rw [← h5]; exact h1) hin]
        exact h3

theorem Cov.len {ok : Int × Int → Bool} {R0 : Int × Int → Prop} {L : List (Lit × List (Int × Int))} {left : Lit → Bool} {R T : List (Int × Int)} (h : Cov ok R0 L left R) (hnd : R.Nodup) (hT : ∀ x, R0 x → x ∈ T) : R.length ≤ T.length + (L.flatMap (·.2)).length := by
  rw [← List.length_append]
  refine length_sub hnd (fun x hx => ?_)
  rcases (h x).1 hx with h1 | ⟨⟨l, h1, _, h3⟩, _⟩
  · exact List.mem_append_left _ (hT x h1)
  · exact List.mem_append_right _ (List.mem_flatMap.2 ⟨l, h1, h3⟩)
end Go.Proofs.Qxb6612720a
