import Derived.Test.Qxb6602500aTwo
namespace Go.Proofs.Qxb6602500a
open Go.RowKit
set_option maxRecDepth 100000

/-- The law looks at these inputs. -/
def Cond (size : Int) (n1 n2 : Nat) (oA sA oB sB : Int) (ws : List (Int × Int × Int × Int)) : Prop :=
  n1 ≤ 65536 ∧ n2 ≤ 4096 ∧ 16 * n1 + 32 * n2 ≤ 1048576 ∧ 1 ≤ size ∧ size ≤ 65536 ∧ (n1 : Int) ≤ size ∧ 0 ≤ oA ∧ oA < size ∧ sA ≠ 0 ∧ 0 ≤ oB ∧ oB < size ∧ sB ≠ 0 ∧ ws.all (inG size) = true

set_option maxHeartbeats 4000000 in
theorem law_no (w : World) (size self : Int) (causal : Bool) (a1 a2 : Option Addr) (n1 c1 c2 : Nat) (oA sA oB sB : Int) (ws : List (Int × Int × Int × Int)) (hw : InW w a2 ws) (hc : ¬ Cond size n1 ws.length oA sA oB sB ws) :
    Calls Try.prog 4 #[.int .i64 size, .int .i64 self, .bool causal, .slice a1 n1 c1, .slice a2 ws.length c2, .int .i64 oA, .int .u64 sA, .int .i64 oB, .int .u64 sB] w fun e w' => e = .returned (.bool true) ∧ Below w.heap.size w w' := by
  have HC : Hid (¬ Cond size n1 ws.length oA sA oB sB ws) := hc
  have HW : Hid (InW w a2 ws) := hw
  clear hc hw
  go_enter Try.func4, Try.ntmps4
  go_wp2_with fail
  refine (bytes_calls w _ _ _ _ _ _ _ a1 a2 n1 ws.length c1 c2).mono ?_
  rintro e w' ⟨b, rfl, rfl, hb⟩
  cases b
  · clear hb
    go_wp2
    go_ret
    exact ⟨rfl, Below.refl _ _⟩
  · obtain ⟨hb1, hb2⟩ := hb rfl
    clear hb
    go_wp2_with fail
    all_goals first
      | (go_ret; exact ⟨rfl, Below.refl _ _⟩)
      | (refine (group_calls w a2 c2 size ws HW.out hb2).mono ?_
         rintro e w' ⟨rfl, rfl⟩
         cases hall : ws.all (inG size)
         · go_wp2
           go_ret
           exact ⟨rfl, Below.refl _ _⟩
         · exfalso
           have h1 := ‹_ ∧ (sB == 0) = false›
           refine HC.out ⟨by omega, by omega, by omega, by omega, by omega, by omega, by omega, by omega, ‹¬ sA = 0›, by omega, by omega, ?_, hall⟩
           simpa using h1.2)

end Go.Proofs.Qxb6602500a
