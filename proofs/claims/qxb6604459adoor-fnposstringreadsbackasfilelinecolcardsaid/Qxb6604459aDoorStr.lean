import Derived.Test.Qxb6604459aDoorShelf
import Derived.Test.Qxb6604459aDoorPlain
import Derived.WalkKit
import Derived.WalkSpells
import Derived.WalkLawsBesides
import Derived.Deep.RegionHeld3
import Derived.Lib.SmallJoins
namespace Go.Proofs.Qxb6604459aDoor
open Go.RowKit
set_option maxRecDepth 100000

theorem gPow : Tryd.prog.globalNamed powName = some 0 := by kernel_rfl

/-- The table of powers of ten reads so in w. -/
def Tab (w : World) : Prop := Lib.TabIs Tryd.prog w powName .u64 Lib.pow10Tab

theorem Tab.below {w w' : World} (h : Tab w) (hb : Below w.heap.size w w') : Tab w' := Joins.tab_stays gPow h hb (Nat.le_refl _)

theorem grow_below (w : World) (k : Nat) (os : Array Obj) : Below w.heap.size w (Sort.grow (w.drewN k) os) := 
  ⟨rfl, rfl, rfl, by simp [Sort.grow], fun i hi => by show (w.heap ++ os)[i]? = _; rw [Array.getElem?_append_left hi]⟩

theorem itoa_calls (n : Int) (h0 : -9223372036854775808 ≤ n) (h1 : n ≤ 9223372036854775807) (w : World) (ht : Tab w) :
    Calls Tryd.prog 25 #[.int .i64 n] w fun e w' => e = .returned (.string ⟨(Lib.itoa n).toArray⟩) ∧ Below w.heap.size w w' :=
  (Tryd.strconv_Itoa n h0 h1 w ht).mono (fun _ _ ⟨he, k, os, hw⟩ => ⟨he, hw ▸ grow_below w k os⟩)

theorem bytes_posS (f : ByteArray) (l c : Int) : (((f ++ ⟨#[58]⟩) ++ ⟨(Lib.itoa l).toArray⟩) ++ ⟨#[58]⟩) ++ ⟨(Lib.itoa c).toArray⟩ = (⟨(posS f.data.toList l c).toArray⟩ : ByteArray) := by
  obtain ⟨⟨fl⟩⟩ := f
  apply ByteArray.ext
  simp [posS, ByteArray.data_append]

set_option maxHeartbeats 1000000 in
theorem string_calls (w : World) (f : ByteArray) (l c : Int) (hf : f.size ≤ 1048576) (l0 : -9223372036854775808 ≤ l) (l1 : l ≤ 9223372036854775807) (c0 : -9223372036854775808 ≤ c) (c1 : c ≤ 9223372036854775807) (ht : Tab w) :
    Calls Tryd.prog 8 #[.agg #[.string f, .int .i64 l, .int .i64 c]] w fun e w' => e = .returned (.string ⟨(posS f.data.toList l c).toArray⟩) ∧ Below w.heap.size w w' := by
  have e1 := Lib.itoa_length_le l l0 l1
  have e2 := Lib.itoa_length_le c c0 c1
  have hl : (⟨(Lib.itoa l).toArray⟩ : ByteArray).size ≤ 21 := e1
  have hc : (⟨(Lib.itoa c).toArray⟩ : ByteArray).size ≤ 21 := e2
  have HP : Hid (Tab w) := ht
  have HL : Hid (-9223372036854775808 ≤ l ∧ l ≤ 9223372036854775807 ∧ -9223372036854775808 ≤ c ∧ c ≤ 9223372036854775807) := ⟨l0, l1, c0, c1⟩
  obtain ⟨sl, es1⟩ : ∃ sl : ByteArray, sl = ⟨(Lib.itoa l).toArray⟩ := ⟨_, rfl⟩
  obtain ⟨sc, es2⟩ : ∃ sc : ByteArray, sc = ⟨(Lib.itoa c).toArray⟩ := ⟨_, rfl⟩
  rw [← es1] at hl
  rw [← es2] at hc
  have HE : Hid (sl = ⟨(Lib.itoa l).toArray⟩ ∧ sc = ⟨(Lib.itoa c).toArray⟩) := ⟨es1, es2⟩
  clear ht l0 l1 c0 c1 e1 e2 es1 es2
  have HS : Hid (∀ w', Below (w.heap.size + 1) (w.alloc (.cells #[.string f, .int .i64 l, .int .i64 c] 24)) w' → (Below (w.heap.size + 1) (w.alloc (.cells #[.string f, .int .i64 l, .int .i64 c] 24)) w' ∧ w'.cell? ⟨w.heap.size, 0, none⟩ = some (.string f) ∧ w'.cell? ⟨w.heap.size, 1, none⟩ = some (.int .i64 l) ∧ w'.cell? ⟨w.heap.size, 2, none⟩ = some (.int .i64 c))) := by
    intro w' hb
    refine ⟨hb, ?_, ?_, ?_⟩
    · rw [hb.cell (by simp)]; go_simp
    · rw [hb.cell (by simp)]; go_simp
    · rw [hb.cell (by simp)]; go_simp
  have HN : Hid (w.heap.size + 1 ≤ (w.alloc (.cells #[.string f, .int .i64 l, .int .i64 c] 24)).heap.size) := by unfold Hid; simp
  have HT : Hid (∀ w', Below (w.heap.size + 1) (w.alloc (.cells #[.string f, .int .i64 l, .int .i64 c] 24)) w' → Tab w') := fun w' hb => HP.out.below (((Below.refl _ _).alloc (Nat.le_refl _) _).trans (hb.mono (by omega)))
  have H1 : Hid (∀ wx, Tab wx → Calls Tryd.prog 25 #[.int .i64 l] wx fun e w' => e = .returned (.string sl) ∧ Below wx.heap.size wx w') := fun wx h => by rw [HE.out.1]; exact itoa_calls l HL.out.1 HL.out.2.1 wx h
  have H2 : Hid (∀ wx, Tab wx → Calls Tryd.prog 25 #[.int .i64 c] wx fun e w' => e = .returned (.string sc) ∧ Below wx.heap.size wx w') := fun wx h => by rw [HE.out.2]; exact itoa_calls c HL.out.2.2.1 HL.out.2.2.2 wx h
  obtain ⟨s1, es1⟩ : ∃ s1 : ByteArray, s1 = f ++ ⟨#[58]⟩ := ⟨_, rfl⟩
  obtain ⟨s2, es2⟩ : ∃ s2 : ByteArray, s2 = s1 ++ sl := ⟨_, rfl⟩
  obtain ⟨s3, es3⟩ : ∃ s3 : ByteArray, s3 = s2 ++ ⟨#[58]⟩ := ⟨_, rfl⟩
  obtain ⟨s4, es4⟩ : ∃ s4 : ByteArray, s4 = s3 ++ sc := ⟨_, rfl⟩
  have z0 : (⟨#[58]⟩ : ByteArray).size = 1 := rfl
  have z1 : s1.size = f.size + 1 := by rw [es1, ByteArray.size_append]; rfl
  have z2 : s2.size = s1.size + sl.size := by rw [es2, ByteArray.size_append]
  have z3 : s3.size = s2.size + 1 := by rw [es3, ByteArray.size_append]; rfl
  have r1 : ∀ wx, (Op.stringOp .add f ⟨#[58]⟩).run Tryd.prog wx = .ok (.string s1) wx := fun wx => by rw [es1]; exact run_string_add_sum wx _ _ (by omega)
  have r2 : ∀ wx, (Op.stringOp .add s1 sl).run Tryd.prog wx = .ok (.string s2) wx := fun wx => by rw [es2]; exact run_string_add_sum wx _ _ (by omega)
  have r3 : ∀ wx, (Op.stringOp .add s2 ⟨#[58]⟩).run Tryd.prog wx = .ok (.string s3) wx := fun wx => by rw [es3]; exact run_string_add_sum wx _ _ (by omega)
  have r4 : ∀ wx, (Op.stringOp .add s3 sc).run Tryd.prog wx = .ok (.string s4) wx := fun wx => by rw [es4]; exact run_string_add_sum wx _ _ (by omega)
  have HF : Hid (s4 = ⟨(posS f.data.toList l c).toArray⟩) := by
    show s4 = _
    rw [es4, es3, es2, es1, HE.out.1, HE.out.2, bytes_posS]
  clear es1 es2 es3 es4 z0 z1 z2 z3 hl hc hf
  go_enter Tryd.func8, Tryd.ntmps8
  go_wp2
  go_region_held3 (fun w' => Below (w.heap.size + 1) (w.alloc (.cells #[.string f, .int .i64 l, .int .i64 c] 24)) w' ∧ w'.cell? ⟨w.heap.size, 0, none⟩ = some (.string f) ∧ w'.cell? ⟨w.heap.size, 1, none⟩ = some (.int .i64 l) ∧ w'.cell? ⟨w.heap.size, 2, none⟩ = some (.int .i64 c))
    (first | exact HS.out _ (Below.refl _ _).drew | exact HS.out _ ((And.left ‹Below _ _ _ ∧ _›).trans (hb.mono (Nat.le_trans HN.out (And.left ‹Below _ _ _ ∧ _›).size))))
    (first | (go_at_call_of 25 (Value.int IntKind.i64 l); refine (H1.out _ (HT.out _ (And.left ‹Below _ _ _ ∧ _›))).mono ?_; rintro e w' ⟨rfl, hb⟩) | (go_at_call_of 25 (Value.int IntKind.i64 c); refine (H2.out _ (HT.out _ (And.left ‹Below _ _ _ ∧ _›))).mono ?_; rintro e w' ⟨rfl, hb⟩))
  go_wp2
  go_ret
  refine ⟨?_, ((Below.refl _ _).alloc (Nat.le_refl _) _).trans ((And.left ‹Below _ _ _ ∧ _›).mono (by omega))⟩
  show Ending.returned (Value.string s4) = _
  rw [HF.out]

set_option maxHeartbeats 1000000 in
theorem apart_bytes (w : World) (f1 f2 : ByteArray) (v1 v2 v4 v5 : Value) :
    Calls Tryd.prog 11 #[.string f1, v1, v2, .string f2, v4, v5] w fun e w' => ∃ b, e = .returned (.bool b) ∧ w = w' ∧ (b = true → f1.size ≤ 1048576 ∧ f2.size ≤ 1048576) := by
  go_enter Tryd.func11, Tryd.ntmps11
  go_wp2
  all_goals go_ret
  all_goals refine ⟨_, rfl, rfl, ?_⟩
  all_goals intro h
  all_goals first | (exact ⟨by omega, by omega⟩) | cases h

theorem toList_data (s : ByteArray) : s.toList = s.data.toList := ByteArray.toList_eq s

/-- Are the two positions one? -/
def same (f1 : ByteArray) (l1 c1 : Int) (f2 : ByteArray) (l2 c2 : Int) : Bool := (f1.data.toList == f2.data.toList) && ((l1 == l2) && (c1 == c2))

theorem same_iff (f1 : ByteArray) (l1 c1 : Int) (f2 : ByteArray) (l2 c2 : Int) : (posS f1.data.toList l1 c1 == posS f2.data.toList l2 c2) = same f1 l1 c1 f2 l2 c2 := by
  rw [Bool.eq_iff_iff]
  simp only [same, beq_iff_eq, Bool.and_eq_true]
  constructor
  · intro h
    exact posS_inj h
  · rintro ⟨h1, h2, h3⟩
    rw [h1, h2, h3]

set_option maxHeartbeats 2000000 in
theorem apart_walk (w : World) (f1 f2 : ByteArray) (l1 c1 l2 c2 : Int) (a0 : -9223372036854775808 ≤ l1) (a1 : l1 ≤ 9223372036854775807) (b0 : -9223372036854775808 ≤ c1) (b1 : c1 ≤ 9223372036854775807) (d0 : -9223372036854775808 ≤ l2) (d1 : l2 ≤ 9223372036854775807) (e0 : -9223372036854775808 ≤ c2) (e1 : c2 ≤ 9223372036854775807) (ht : Tab w) :
    Calls Tryd.prog 4 #[.string f1, .int .i64 l1, .int .i64 c1, .string f2, .int .i64 l2, .int .i64 c2] w fun e w' => e = .returned (.bool true) ∧ Below w.heap.size w w' := by
  have HT : Hid (Tab w ∧ -9223372036854775808 ≤ l1 ∧ l1 ≤ 9223372036854775807 ∧ -9223372036854775808 ≤ c1 ∧ c1 ≤ 9223372036854775807 ∧ -9223372036854775808 ≤ l2 ∧ l2 ≤ 9223372036854775807 ∧ -9223372036854775808 ≤ c2 ∧ c2 ≤ 9223372036854775807) := ⟨ht, a0, a1, b0, b1, d0, d1, e0, e1⟩
  clear ht a0 a1 b0 b1 d0 d1 e0 e1
  go_enter Tryd.func4, Tryd.ntmps4
  go_wp2_with fail
  refine (apart_bytes w f1 f2 _ _ _ _).mono ?_
  rintro e w' ⟨b, rfl, rfl, hb⟩
  cases b
  · clear hb
    go_wp2
    go_ret
    exact ⟨rfl, Below.refl _ _⟩
  · obtain ⟨hb1, hb2⟩ := hb rfl
    clear hb
    go_wp2_with fail

    · go_ret
      exact ⟨rfl, Below.refl _ _⟩
    · refine (string_calls w f1 l1 c1 hb1 HT.out.2.1 HT.out.2.2.1 HT.out.2.2.2.1 HT.out.2.2.2.2.1 HT.out.1).mono ?_
      rintro e w' ⟨rfl, hq⟩
      have HQ : Hid (Below w.heap.size w w') := hq
      clear hq
      go_wp2_with fail
      refine (string_calls w' f2 l2 c2 hb2 HT.out.2.2.2.2.2.1 HT.out.2.2.2.2.2.2.1 HT.out.2.2.2.2.2.2.2.1 HT.out.2.2.2.2.2.2.2.2 (HT.out.1.below HQ.out)).mono ?_
      rintro e w'' ⟨rfl, hq⟩
      have HQ2 : Hid (Below w.heap.size w w'') := HQ.out.trans (hq.mono HQ.out.size)
      clear hq
      go_wp2
      all_goals go_ret
      all_goals refine ⟨?_, HQ2.out⟩
      · show Ending.returned (Value.bool ((posS f1.data.toList l2 c1 == posS f2.data.toList l2 c2) == (c1 == c2))) = _
        rename_i hx _
        rw [same_iff, same, ← toList_data, ← toList_data, hx, beq_self_eq_true, beq_self_eq_true, Bool.true_and, Bool.true_and, beq_self_eq_true]
      · show Ending.returned (Value.bool (!(posS f1.data.toList l1 c1 == posS f2.data.toList l2 c2))) = _
        rename_i _ hx
        rw [same_iff, same, beq_eq_false_iff_ne.2 hx, Bool.false_and, Bool.and_false, Bool.not_false]
      · show Ending.returned (Value.bool (!(posS f1.data.toList l1 c1 == posS f2.data.toList l2 c2))) = _
        rename_i hx
        rw [same_iff, same, ← toList_data, ← toList_data, beq_eq_false_iff_ne.2 hx, Bool.false_and, Bool.not_false]
end Go.Proofs.Qxb6604459aDoor
