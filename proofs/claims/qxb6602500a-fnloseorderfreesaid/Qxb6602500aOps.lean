import Derived.Test.Qxb6602500aSweep
namespace Go.Proofs.Qxb6602500a
open Go.RowKit

section
variable {w : World} {ops : Array Oper} {rest : List Oper} {o : Oper} {a : Act} {Q : Exit → Act → World → Prop}

/-- THE STEP of the range over the waiting lists. -/
theorem wpList_next_wts (hg : o.guard = none) (it : Operand) (hop : o.op = Op.next it false) (mb r n : Nat) (D : DataW Value) (left : Lit → Bool) (cnt : Nat) (m1 : WMap)
    (hit : a.eval it = .pointer (some ⟨r, 0, none⟩)) (h : w.ranges Try.prog 73 rawR mb r n D left cnt)
    (hdom : ∀ l, left l = true → ∃ e ∈ m1, l = kN e.1 ∧ wfN e.1 ∧ ∃ v, (∀ z, D.atKey (kN e.1) z = .held v) ∧ Slc w v e.2)
    (hDone : cnt = 0 → (∀ kl, left kl = false) → wpList Try.prog ops Q rest (a.put o.dst (.tuple #[.bool false])) w)
    (hMore : ∀ (ko : Nat) (ks : Int) (ws : List (Nat × Int)) (rb cap : Nat) (w' : World) (cnt' : Nat), ((ko, ks), ws) ∈ m1 → left (kN (ko, ks)) = true → Slc w (.slice (some ⟨rb, 0, none⟩) ws.length cap) ws →
      w'.ranges Try.prog 73 rawR mb r n D (fun z => left z && !z.sameKey (kN (ko, ks))) cnt' → cnt' < cnt → w.grownBy w' (some r) → w'.heap.size = w.heap.size →
      (Instr.entry (.pointer (some ⟨r, 0, none⟩))).run Try.prog w' = .ok (.tuple #[.agg #[.int .i64 ko, .int .u64 ks], .slice (some ⟨rb, 0, none⟩) ws.length cap]) w' →
      wpList Try.prog ops Q rest (a.put o.dst (.tuple #[.bool true, .agg #[.int .i64 ko, .int .u64 ks], .slice (some ⟨rb, 0, none⟩) ws.length cap])) w') :
    wpList Try.prog ops Q (o :: rest) a w := by
  refine wpList_next_ranges (α := Int × Int) (β := Value) w hg it hop 73 law rawR (fun p => kvI p.1 p.2) id (fun key kl hk => ?_) (fun v _ _ => ⟨v, rfl⟩) mb r n D left cnt hit h hDone ?_
  · obtain ⟨x, y, _, rfl, _⟩ := key_inv hk
    exact ⟨(x, y), rfl⟩
  · intro x c kl y w' cnt' hkey hlk hv hat hrg hlt hgr hsz hen
    obtain ⟨e, he, rfl, hwf, v, hav, hsl⟩ := hdom kl hlk
    have e1 : kvI x.1 x.2 = vN e.1 := law.inj hkey (keyN hwf)
    have e2 : c = v := by
      have h1 := hat .nil
      rw [hav] at h1
      simp only [rawR, id, Option.some.injEq] at hv
      rw [← hv] at h1
      simpa using h1.symm
    subst e2
    obtain ⟨⟨ko, ks⟩, ws⟩ := e
    obtain ⟨rb, cap, row, rfl, rest'⟩ := hsl
    simp only [id] at hen ⊢
    rw [e1] at hen ⊢
    exact hMore ko ks ws rb cap w' cnt' he hlk ⟨rb, cap, row, rfl, rest'⟩ hrg hlt hgr hsz hen

/-- 'delete' AS ONE STEP of a region that draws. -/
theorem step_delete_wts {K : Act → World → Prop} {E : Prop} (hg : o.guard = none) (mo x : Operand) (hop : o.op = Op.call { callee := Callee.builtin Builtin.delete, args := #[mo, x], argTypes := #[86, 73] })
    (mb r n : Nat) (D : DataW Value) (left : Lit → Bool) (cnt : Nat) (hm : a.eval mo = .map (some mb)) (h : w.ranges Try.prog 73 rawR mb r n D left cnt) (ko : Nat) (ks : Int) (hx : a.eval x = .agg #[.int .i64 ko, .int .u64 ks]) (hwf : wfN (ko, ks))
    (hK : ∀ w' cnt', w'.ranges Try.prog 73 rawR mb r n (D.del (kN (ko, ks))) (fun z => left z && !z.sameKey (kN (ko, ks))) cnt' → cnt' ≤ cnt → w.mapTurned w' mb → K (a.put o.dst (.tuple #[])) w') :
    if Region.wanted o (yielded ops a.tmps) = true then Oper.wp Try.prog o a w K Q else E := by
  have hw : Region.wanted o (yielded ops a.tmps) = true := by simp [Region.wanted, hg]
  rw [if_pos hw]
  obtain ⟨w', cnt', hrun, r1, r2, r3⟩ := h.drop law Try.underlying86 (keyN hwf) o.type
  unfold vN at hrun
  unfold Oper.wp
  simp [execOp, hop, resolve, invoke, builtin, hm, hx, hrun, Result.andThen]
  exact hK w' cnt' r1 r2 r3
end
end Go.Proofs.Qxb6602500a
