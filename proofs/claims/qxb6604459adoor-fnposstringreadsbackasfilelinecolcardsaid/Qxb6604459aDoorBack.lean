import Derived.Test.Qxb6604459aDoorRead
namespace Go.Proofs.Qxb6604459aDoor
open Go.RowKit Go.PlainAid
set_option maxRecDepth 100000

set_option maxHeartbeats 1000000 in
theorem back_bytes (w : World) (f : ByteArray) (v1 v2 : Value) :
    Calls Tryd.prog 7 #[.string f, v1, v2] w fun e w' => ∃ b, e = .returned (.bool b) ∧ w = w' ∧ (b = true → f.size ≤ 1048576) := by
  go_enter Tryd.func7, Tryd.ntmps7
  go_wp2
  all_goals go_ret
  all_goals refine ⟨_, rfl, rfl, ?_⟩
  all_goals intro h
  all_goals first | omega | cases h

/-- What the text of a position looks like. -/
structure Cut (f : ByteArray) (l c : Int) (s : ByteArray) (i j : Nat) : Prop where
  ij : i + 1 ≤ j
  js : j + 1 ≤ s.size
  sz : s.size ≤ 2000000
  bi : bt s i = 58
  ni : ∀ k, i < k → k < j → bt s k ≠ 58
  bj : bt s j = 58
  nj : ∀ k, j < k → k < s.size → bt s k ≠ 58
  el : (s.extract (i + 1) j).data.toList = Lib.itoa l
  ec : (s.extract (j + 1) s.size).data.toList = Lib.itoa c
  ef : s.extract 0 i = f

theorem bt_at {s : ByteArray} {p q : List UInt8} (h : s.data.toList = p ++ 58 :: q) : bt s p.length = 58 := by
  rw [bt_list s p.length (by rw [h]; simp)]
  simp only [h]
  rw [List.getElem_append_right (Nat.le_refl _)]
  simp

theorem bt_ne {s : ByteArray} {p q r : List UInt8} (h : s.data.toList = p ++ 58 :: (q ++ r)) (hq : (58 : UInt8) ∉ q) (k : Nat) (h1 : p.length < k) (h2 : k < p.length + 1 + q.length) : bt s k ≠ 58 := by
  rw [bt_list s k (by rw [h]; simp; omega)]
  simp only [h]
  rw [List.getElem_append_right (by omega)]
  obtain ⟨d, rfl⟩ : ∃ d, k = p.length + 1 + d := ⟨k - p.length - 1, by omega⟩
  have e : p.length + 1 + d - p.length = d + 1 := by omega
  simp only [e, List.getElem_cons_succ]
  rw [List.getElem_append_left (by omega)]
  intro e2
  have e3 : q[d]'(by omega) = 58 := UInt8.toNat_inj.1 (by have : (58 : UInt8).toNat = 58 := rfl; omega)
  exact hq (by rw [← e3]; exact List.getElem_mem _)

theorem drop_past {p q : List UInt8} {x : UInt8} : (p ++ x :: q).drop (p.length + 1) = q := by
  rw [List.drop_append]
  simp

theorem cut_of (f : ByteArray) (l c : Int) (hf : f.size ≤ 1048576) (l0 : -9223372036854775808 ≤ l) (l1 : l ≤ 9223372036854775807) (c0 : -9223372036854775808 ≤ c) (c1 : c ≤ 9223372036854775807) :
    ∃ i j, Cut f l c ⟨(posS f.data.toList l c).toArray⟩ i j := by
  have e1 := Lib.itoa_length_le l l0 l1
  have e2 := Lib.itoa_length_le c c0 c1
  obtain ⟨s, hs⟩ : ∃ s : ByteArray, s = ⟨(posS f.data.toList l c).toArray⟩ := ⟨_, rfl⟩
  rw [← hs]
  have hd : s.data.toList = posS f.data.toList l c := by rw [hs]
  have hfl : f.data.toList.length = f.size := rfl
  have hsl : s.size = s.data.toList.length := rfl
  have hd1 : s.data.toList = f.data.toList ++ 58 :: (Lib.itoa l ++ 58 :: Lib.itoa c) := by rw [hd]; simp [posS]
  have hd2 : s.data.toList = (f.data.toList ++ 58 :: Lib.itoa l) ++ 58 :: Lib.itoa c := by rw [hd]; rfl
  have hd3 : s.data.toList = (f.data.toList ++ 58 :: Lib.itoa l) ++ 58 :: (Lib.itoa c ++ []) := by rw [hd2]; simp
  have hl : s.size = f.size + 1 + (Lib.itoa l).length + 1 + (Lib.itoa c).length := by rw [hsl, hd2]; simp [hfl]; omega
  have hj : (f.data.toList ++ 58 :: Lib.itoa l).length = f.size + 1 + (Lib.itoa l).length := by simp [hfl]; omega
  refine ⟨f.size, f.size + 1 + (Lib.itoa l).length, by omega, by omega, by omega, ?_, ?_, ?_, ?_, ?_, ?_, ?_⟩
  · exact bt_at hd1
  · intro k k1 k2
    exact bt_ne hd1 (colon_itoa l) k k1 (by omega)
  · rw [← hj]; exact bt_at hd2
  · intro k k1 k2
    exact bt_ne hd3 (colon_itoa c) k (by omega) (by omega)
  · rw [Lib.extract_data, hd1]
    have e3 : f.size + 1 = f.data.toList.length + 1 := rfl
    rw [e3, drop_past, show f.data.toList.length + 1 + (Lib.itoa l).length - (f.data.toList.length + 1) = (Lib.itoa l).length by omega]
    exact List.take_left
  · rw [Lib.extract_data, ← hj, hd2]
    have e3 : s.size - ((f.data.toList ++ 58 :: Lib.itoa l).length + 1) = (Lib.itoa c).length := by omega
    rw [e3, drop_past]
    exact List.take_length
  · apply ByteArray.ext
    apply Array.toList_inj.1
    rw [Lib.extract_data, hd1, Nat.sub_zero, List.drop_zero, ← hfl]
    exact List.take_left

set_option maxHeartbeats 2000000 in
theorem back_walk (w : World) (f : ByteArray) (l c : Int) (l0 : -9223372036854775808 ≤ l) (l1 : l ≤ 9223372036854775807) (c0 : -9223372036854775808 ≤ c) (c1 : c ≤ 9223372036854775807) (ht : Tab w) :
    Calls Tryd.prog 3 #[.string f, .int .i64 l, .int .i64 c] w fun e w' => e = .returned (.bool true) ∧ Below w.heap.size w w' := by
  have HT : Hid (Tab w ∧ -9223372036854775808 ≤ l ∧ l ≤ 9223372036854775807 ∧ -9223372036854775808 ≤ c ∧ c ≤ 9223372036854775807) := ⟨ht, l0, l1, c0, c1⟩
  clear ht l0 l1 c0 c1
  go_enter Tryd.func3, Tryd.ntmps3
  go_wp2_with fail
  refine (back_bytes w f _ _).mono ?_
  rintro e w' ⟨b, rfl, rfl, hb⟩
  cases b
  · clear hb
    go_wp2
    go_ret
    exact ⟨rfl, Below.refl _ _⟩
  · have hb1 := hb rfl
    clear hb
    obtain ⟨i, j, hC⟩ := cut_of f l c hb1 HT.out.2.1 HT.out.2.2.1 HT.out.2.2.2.1 HT.out.2.2.2.2
    obtain ⟨s, hs⟩ : ∃ s : ByteArray, s = ⟨(posS f.data.toList l c).toArray⟩ := ⟨_, rfl⟩
    rw [← hs] at hC
    have HS : Hid (s = ⟨(posS f.data.toList l c).toArray⟩) := hs
    have HC : Hid (Cut f l c s i j) := hC
    clear hs hC
    go_wp2_with fail
    refine (string_calls w f l c hb1 HT.out.2.1 HT.out.2.2.1 HT.out.2.2.2.1 HT.out.2.2.2.2 HT.out.1).mono ?_
    rw [← HS.out]
    rintro e w' ⟨rfl, hq⟩
    have HQ : Hid (Below w.heap.size w w') := hq
    clear hq
    have ij := HC.out.ij
    have js := HC.out.js
    have sz := HC.out.sz
    have ef := HC.out.ef
    go_wp2_with fail
    refine (colon_calls w' s s.size j (Nat.le_refl _) sz (by omega) HC.out.bj HC.out.nj).mono ?_
    rintro e w'' ⟨rfl, rfl⟩
    go_wp2_with fail
    refine (colon_calls w' s j i (by omega) sz (by omega) HC.out.bi HC.out.ni).mono ?_
    rintro e w'' ⟨rfl, rfl⟩
    go_wp2_with fail
    refine (parse_calls w' _ l HT.out.2.1 HT.out.2.2.1 HC.out.el).mono ?_
    rintro e w'' ⟨rfl, rfl⟩
    go_wp2_with fail
    refine (parse_calls w' _ c HT.out.2.2.2.1 HT.out.2.2.2.2 HC.out.ec).mono ?_
    rintro e w'' ⟨rfl, rfl⟩
    go_wp2_with fail
    go_ret
    exact ⟨rfl, HQ.out⟩
end Go.Proofs.Qxb6604459aDoor
