import Derived.Test.Qxb6604459aDoorStr
import Derived.PlainAid
import Derived.Deep.LoopGhost
namespace Go.Proofs.Qxb6604459aDoor
open Go.RowKit Go.PlainAid
set_option maxRecDepth 100000

set_option maxHeartbeats 1000000 in
theorem colon_calls (w : World) (s : ByteArray) (en p : Nat) (he : en ≤ s.size) (hs : s.size ≤ 2000000) (hp : p < en) (h1 : bt s p = 58) (h2 : ∀ k, p < k → k < en → bt s k ≠ 58) :
    Calls Tryd.prog 9 #[.string s, .int .i64 en] w fun e w' => e = .returned (.int .i64 p) ∧ w = w' := by
  have hb := get_bt s
  have H : Hid (∀ k, p < k → k < en → bt s k ≠ 58) := h2
  clear h2
  go_enter Tryd.func9, Tryd.ntmps9
  go_wp2
  go_loopg [5] (en - 1) (fun j i wr => ∃ k : Nat, p ≤ k ∧ k < en ∧ i = .int .i64 k ∧ j = k ∧ w = wr)
  case atStart => exact ⟨en - 1, by omega, by omega, by go_num, rfl, rfl⟩
  case round =>
    obtain ⟨k, hk1, hk2, rfl, hgk, rfl⟩ := hrel
    have hks : (k : Int) < s.size := by omega
    by_cases hlt : k = p
    · subst hlt
      go_wp2
      go_ret
      exact ⟨rfl, rfl⟩
    · have hne := H.out k (by omega) hk2
      have HA : Hid (gk = k) := hgk
      clear hgk
      go_wp2
      go_roundg (k - 1)
      case measure => have := HA.out; omega
      case rel => exact ⟨k - 1, by omega, by omega, by go_num, rfl, rfl⟩

set_option maxHeartbeats 1000000 in
theorem parse_pos (w : World) (t : ByteArray) (m : Nat → Int) (h0 : 0 < t.size) (hs : t.size ≤ 100) (hd : ∀ k, k < t.size → 48 ≤ bt t k ∧ bt t k ≤ 57) (m0 : m 0 = 0) (mS : ∀ k, k < t.size → m (k + 1) = m k * 10 + (bt t k - 48))
    (hm : ∀ k, k ≤ t.size → 0 ≤ m k ∧ m k ≤ 9223372036854775807) (hz : bt t 0 = 48 → t.size = 1) :
    Calls Tryd.prog 10 #[.string t] w fun e w' => e = .returned (.tuple #[.int .i64 (m t.size), .bool true]) ∧ w = w' := by
  have hb := get_bt t
  have HD : Hid ((∀ k, k < t.size → 48 ≤ bt t k ∧ bt t k ≤ 57) ∧ (∀ k, k < t.size → m (k + 1) = m k * 10 + (bt t k - 48)) ∧ (∀ k, k ≤ t.size → 0 ≤ m k ∧ m k ≤ 9223372036854775807)) := ⟨hd, mS, hm⟩
  have HM : Hid (m 0 = 0) := m0
  have HZ : Hid (bt t 0 = 48 → t.size = 1) := hz
  obtain ⟨hd0, hd1⟩ := hd 0 h0
  clear hd mS hm m0 hz
  go_enter Tryd.func10, Tryd.ntmps10
  go_wp2_with fail
  all_goals first
    | (exfalso; have := HZ.out (by assumption); omega)
    | (
      go_loopg [4, 6] t.size (fun j i x wr => ∃ (k : Nat) (z : Int), k ≤ t.size ∧ i = .int .i64 k ∧ x = .int .i64 z ∧ z = - m k ∧ j = t.size - k ∧ w = wr)
      case atStart => exact ⟨0, 0, by omega, rfl, rfl, by rw [HM.out]; rfl, rfl, rfl⟩
      case round =>
        obtain ⟨k, z, hk, rfl, rfl, hzm, hgk, rfl⟩ := hrel
        by_cases hlt : k < t.size
        · obtain ⟨e0, e1⟩ := HD.out.1 k hlt
          have e2 := HD.out.2.1 k hlt
          obtain ⟨e3, e4⟩ := HD.out.2.2 k hk
          obtain ⟨e5, e6⟩ := HD.out.2.2 (k + 1) hlt
          have z1 : z ≤ 0 := by omega
          have z2 : -9223372036854775807 ≤ z * 10 - (bt t k - 48) := by omega
          have HA : Hid (gk = t.size - k ∧ z * 10 - (bt t k - 48) = - m (k + 1)) := ⟨hgk, by omega⟩
          have hki : (k : Int) < t.size := by omega
          clear hgk hzm e2 e3 e4 e5 e6
          go_wp2_with fail
          go_roundg (t.size - (k + 1))
          case measure => have := HA.out.1; omega
          case rel => exact ⟨k + 1, z * 10 - (bt t k - 48), by omega, by go_num, by go_num, HA.out.2, rfl, rfl⟩
        · have HA : Hid (z = - m t.size) := by
            have : k = t.size := by omega
            subst this
            exact hzm
          obtain ⟨e3, e4⟩ := HD.out.2.2 t.size (Nat.le_refl _)
          have z0 := HA.out
          have z1 : z ≤ 0 := by omega
          have z2 : -9223372036854775807 ≤ z := by omega
          clear hgk hzm e3 e4 z0
          go_wp2_with fail
          exact bodyPost_ret (v := .tuple #[.int .i64 (-z), .bool true]) (by simp [results, Tryd.results10, go_sem]) rfl ⟨by rw [HA.out, Int.neg_neg], rfl⟩)

set_option maxHeartbeats 1000000 in
theorem parse_neg (w : World) (t : ByteArray) (m : Nat → Int) (h0 : 1 < t.size) (hs : t.size ≤ 100) (hy : bt t 0 = 45) (hd : ∀ k, 1 ≤ k → k < t.size → 48 ≤ bt t k ∧ bt t k ≤ 57) (m0 : m 1 = 0) (mS : ∀ k, 1 ≤ k → k < t.size → m (k + 1) = m k * 10 + (bt t k - 48))
    (hm : ∀ k, 1 ≤ k → k ≤ t.size → 0 ≤ m k ∧ m k ≤ 9223372036854775808) (hz : bt t 1 ≠ 48) :
    Calls Tryd.prog 10 #[.string t] w fun e w' => e = .returned (.tuple #[.int .i64 (- m t.size), .bool true]) ∧ w = w' := by
  have hb := get_bt t
  have HD : Hid ((∀ k, 1 ≤ k → k < t.size → 48 ≤ bt t k ∧ bt t k ≤ 57) ∧ (∀ k, 1 ≤ k → k < t.size → m (k + 1) = m k * 10 + (bt t k - 48)) ∧ (∀ k, 1 ≤ k → k ≤ t.size → 0 ≤ m k ∧ m k ≤ 9223372036854775808)) := ⟨hd, mS, hm⟩
  have HM : Hid (m 1 = 0) := m0
  clear hd mS hm m0
  go_enter Tryd.func10, Tryd.ntmps10
  go_wp2_with fail
  go_loopg [4, 6] (t.size - 1) (fun j i x wr => ∃ (k : Nat) (z : Int), 1 ≤ k ∧ k ≤ t.size ∧ i = .int .i64 k ∧ x = .int .i64 z ∧ z = - m k ∧ j = t.size - k ∧ w = wr)
  case atStart => exact ⟨1, 0, by omega, by omega, rfl, rfl, by rw [HM.out]; rfl, rfl, rfl⟩
  case round =>
    obtain ⟨k, z, hk1, hk, rfl, rfl, hzm, hgk, rfl⟩ := hrel
    by_cases hlt : k < t.size
    · obtain ⟨e0, e1⟩ := HD.out.1 k hk1 hlt
      have e2 := HD.out.2.1 k hk1 hlt
      obtain ⟨e3, e4⟩ := HD.out.2.2 k hk1 hk
      obtain ⟨e5, e6⟩ := HD.out.2.2 (k + 1) (by omega) hlt
      have z1 : z ≤ 0 := by omega
      have z2 : -9223372036854775808 ≤ z * 10 - (bt t k - 48) := by omega
      have HA : Hid (gk = t.size - k ∧ z * 10 - (bt t k - 48) = - m (k + 1)) := ⟨hgk, by omega⟩
      have hki : (k : Int) < t.size := by omega
      clear hgk hzm e2 e3 e4 e5 e6
      go_wp2_with fail
      go_roundg (t.size - (k + 1))
      case measure => have := HA.out.1; omega
      case rel => exact ⟨k + 1, z * 10 - (bt t k - 48), by omega, by omega, by go_num, by go_num, HA.out.2, rfl, rfl⟩
    · have HA : Hid (z = - m t.size) := by
        have : k = t.size := by omega
        subst this
        exact hzm
      clear hgk hzm
      go_wp2_with fail
      exact bodyPost_ret (v := .tuple #[.int .i64 z, .bool true]) (by simp [results, Tryd.results10, go_sem]) rfl ⟨by rw [HA.out], rfl⟩

/-! ### The plain part: a numeral's bytes -/

theorem bt_list (t : ByteArray) (k : Nat) (h : k < t.data.toList.length) : bt t k = ((t.data.toList[k]).toNat : Int) := by
  unfold bt
  rw [dif_pos (show k < t.size from h)]
  rfl

theorem val_take (ds : List UInt8) (k : Nat) (h : k < ds.length) : val (ds.take (k + 1)) = val (ds.take k) * 10 + ((ds[k]).toNat - 48) := by
  rw [List.take_succ_eq_append_getElem h, val_snoc]

theorem val_le (ds : List UInt8) (k : Nat) : val (ds.take k) ≤ val ds := by
  have step : ∀ j, val (ds.take j) ≤ val (ds.take (j + 1)) := fun j => by
    by_cases h : j < ds.length
    · rw [val_take ds j h]; omega
    · rw [List.take_of_length_le (by omega), List.take_of_length_le (by omega)]; exact Nat.le_refl _
  have all : ∀ d, val (ds.take k) ≤ val (ds.take (k + d)) := fun d => by
    induction d with
    | zero => exact Nat.le_refl _
    | succ d ih => exact Nat.le_trans ih (step _)
  have := all ds.length
  rwa [List.take_of_length_le (i := k + ds.length) (by omega)] at this

theorem head_dec (u : Nat) (h : (Lib.decDigits u).head? = some 48) : u = 0 := by
  induction u using Nat.strongRecOn with
  | _ u ih =>
    by_cases hu : u < 10
    · rw [Lib.decDigits_one hu] at h
      have e : UInt8.ofNat (48 + u) = 48 := by simpa using h
      have := congrArg UInt8.toNat e
      rw [dig_toNat hu] at this
      have e2 : (48 : UInt8).toNat = 48 := rfl
      omega
    · rw [decDigits_big hu] at h
      have h' : (Lib.decDigits (u / 10)).head? = some 48 := by
        cases hq : Lib.decDigits (u / 10) with
        | nil => exact absurd hq (decDigits_ne_nil _)
        | cons a r => rw [hq] at h; exact h
      have := ih (u / 10) (by omega) h'
      omega

theorem parse_calls (w : World) (t : ByteArray) (n : Int) (h0 : -9223372036854775808 ≤ n) (h1 : n ≤ 9223372036854775807) (ht : t.data.toList = Lib.itoa n) :
    Calls Tryd.prog 10 #[.string t] w fun e w' => e = .returned (.tuple #[.int .i64 n, .bool true]) ∧ w = w' := by
  have hlen := Lib.itoa_length_le n h0 h1
  have hsz : t.size = (Lib.itoa n).length := by rw [← ht]; rfl
  by_cases hn : n < 0
  · have e : Lib.itoa n = 45 :: Lib.decDigits n.natAbs := by unfold Lib.itoa; rw [if_pos hn]
    obtain ⟨ds, hds⟩ : ∃ ds, ds = Lib.decDigits n.natAbs := ⟨_, rfl⟩
    have hv : val ds = n.natAbs := by rw [hds, val_decDigits]
    have hne : ds ≠ [] := by rw [hds]; exact decDigits_ne_nil _
    have hpos : 0 < ds.length := List.length_pos_iff.2 hne
    rw [← hds] at e
    rw [e] at ht hsz hlen
    simp only [List.length_cons] at hsz hlen
    have at' : ∀ k (hk : k < ds.length), bt t (k + 1) = ((ds[k]).toNat : Int) := fun k hk => by
      rw [bt_list t (k + 1) (by rw [ht]; simpa using hk)]
      simp only [ht, List.getElem_cons_succ]
    have dig : ∀ k (hk : k < ds.length), 48 ≤ (ds[k]).toNat ∧ (ds[k]).toNat ≤ 57 := fun k hk => mem_decDigits (u := n.natAbs) (by rw [← hds]; exact List.getElem_mem hk)
    have := parse_neg w t (fun k => (val (ds.take (k - 1)) : Int)) (by omega) (by omega) (by rw [bt_list t 0 (by rw [ht]; simp)]; simp only [ht]; rfl)
      (fun k k1 k2 => by
        obtain ⟨j, rfl⟩ : ∃ j, k = j + 1 := ⟨k - 1, by omega⟩
        rw [at' j (by omega)]
        have := dig j (by omega)
        omega) rfl
      (fun k k1 k2 => by
        obtain ⟨j, rfl⟩ : ∃ j, k = j + 1 := ⟨k - 1, by omega⟩
        rw [at' j (by omega)]
        have := dig j (by omega)
        simp only [Nat.add_sub_cancel]
        rw [val_take ds j (by omega)]
        omega)
      (fun k k1 k2 => by
        have := val_le ds (k - 1)
        show 0 ≤ ((val _ : Nat) : Int) ∧ ((val _ : Nat) : Int) ≤ _
        omega)
      (fun e2 => by
        rw [at' 0 hpos] at e2
        have e3 : ds[0] = 48 := UInt8.toNat_inj.1 (by have : (48 : UInt8).toNat = 48 := rfl; omega)
        have := head_dec n.natAbs (by rw [← hds, List.head?_eq_getElem?, List.getElem?_eq_getElem hpos, e3])
        omega)
    refine this.mono ?_
    rintro e' w' ⟨rfl, rfl⟩
    refine ⟨?_, rfl⟩
    have e4 : -((val (ds.take (t.size - 1)) : Nat) : Int) = n := by
      rw [List.take_of_length_le (by omega), hv]
      omega
    rw [e4]
  · have e : Lib.itoa n = Lib.decDigits n.toNat := by unfold Lib.itoa; rw [if_neg hn]
    obtain ⟨ds, hds⟩ : ∃ ds, ds = Lib.decDigits n.toNat := ⟨_, rfl⟩
    have hv : val ds = n.toNat := by rw [hds, val_decDigits]
    have hne : ds ≠ [] := by rw [hds]; exact decDigits_ne_nil _
    have hpos : 0 < ds.length := List.length_pos_iff.2 hne
    rw [← hds] at e
    rw [e] at ht hsz hlen
    have at' : ∀ k (hk : k < ds.length), bt t k = ((ds[k]).toNat : Int) := fun k hk => by
      rw [bt_list t k (by rw [ht]; exact hk)]
      simp only [ht]
    have dig : ∀ k (hk : k < ds.length), 48 ≤ (ds[k]).toNat ∧ (ds[k]).toNat ≤ 57 := fun k hk => mem_decDigits (u := n.toNat) (by rw [← hds]; exact List.getElem_mem hk)
    have := parse_pos w t (fun k => (val (ds.take k) : Int)) (by omega) (by omega)
      (fun k k2 => by
        rw [at' k (by omega)]
        have := dig k (by omega)
        omega) rfl
      (fun k k2 => by
        rw [at' k (by omega)]
        have := dig k (by omega)
        rw [val_take ds k (by omega)]
        omega)
      (fun k k2 => by
        have := val_le ds k
        show 0 ≤ ((val _ : Nat) : Int) ∧ ((val _ : Nat) : Int) ≤ _
        omega)
      (fun e2 => by
        rw [at' 0 hpos] at e2
        have e3 : ds[0] = 48 := UInt8.toNat_inj.1 (by have : (48 : UInt8).toNat = 48 := rfl; omega)
        have := head_dec n.toNat (by rw [← hds, List.head?_eq_getElem?, List.getElem?_eq_getElem hpos, e3])
        rw [hsz, hds, this, Lib.decDigits_length]
        exact Lib.nDigits_small (by omega))
    refine this.mono ?_
    rintro e' w' ⟨rfl, rfl⟩
    refine ⟨?_, rfl⟩
    have e4 : ((val (ds.take t.size) : Nat) : Int) = n := by
      rw [List.take_of_length_le (by omega), hv]
      omega
    rw [e4]
end Go.Proofs.Qxb6604459aDoor
