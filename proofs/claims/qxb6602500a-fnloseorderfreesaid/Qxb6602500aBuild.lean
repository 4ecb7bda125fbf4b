import Derived.Test.Qxb6602500aGroup
namespace Go.Proofs.Qxb6602500a
open Go.RowKit
set_option maxRecDepth 100000

def toW (p : (Nat × Int) × (Nat × Int)) : Int × Int × Int × Int := (p.1.1, p.1.2, p.2.1, p.2.2)
def mOf (ws : List ((Nat × Int) × (Nat × Int))) : WMap := ws.foldl (fun m p => push m p.1 p.2) []
def Lof (ls : List (Int × Int)) (k : Nat) : Nat → Int × Int := fun p => if p < k then ls.getD p (0, 0) else (0, 0)

theorem mOf_snoc (ws : List ((Nat × Int) × (Nat × Int))) (p : (Nat × Int) × (Nat × Int)) : mOf (ws ++ [p]) = push (mOf ws) p.1 p.2 := by simp [mOf]

theorem Lof_step (ls : List (Int × Int)) (k : Nat) (hk : k < ls.length) : upd (Lof ls k) k ls[k] = Lof ls (k + 1) := by
  funext p
  unfold upd Lof
  by_cases e : p = k
  · subst e
    simp [hk]
  · rw [if_neg e]
    by_cases h : p < k
    · rw [if_pos h, if_pos (by omega)]
    · rw [if_neg h, if_neg (by omega)]

theorem push_nodup {m : WMap} (hn : (m.map (·.1)).Nodup) (k x : Nat × Int) : ((push m k x).map (·.1)).Nodup := by
  unfold push
  cases hl : look m k with
  | none =>
    simp only [List.map_append, List.map_cons, List.map_nil]
    refine List.nodup_append.2 ⟨hn, by simp, fun a ha b hb' => ?_⟩
    simp at hb'
    obtain ⟨e, he, rfl⟩ := List.mem_map.1 ha
    rw [hb']
    exact look_none.1 hl e he
  | some ks =>
    simp only [List.map_map]
    have : ((fun e : (Nat × Int) × List (Nat × Int) => e.1) ∘ fun e => if e.1 = k then (e.1, e.2 ++ [x]) else e) = (fun e => e.1) := by
      funext e
      simp only [Function.comp]
      split <;> rfl
    rw [this]
    exact hn

theorem map_skip {r : WMap} {k x : Nat × Int} (h : ∀ e ∈ r, e.1 ≠ k) : r.map (fun e => if e.1 = k then (e.1, e.2 ++ [x]) else e) = r := by
  induction r with
  | nil => rfl
  | cons e r ih =>
    rw [List.map_cons, if_neg (h e (by simp)), ih (fun a ha => h a (by simp [ha]))]

theorem total_bump {k x : Nat × Int} : ∀ {r : WMap}, (r.map (·.1)).Nodup → (∃ e ∈ r, e.1 = k) → total (r.map (fun e => if e.1 = k then (e.1, e.2 ++ [x]) else e)) = total r + 1
  | [], _, h => by obtain ⟨e, he, _⟩ := h; cases he
  | e :: r, hn, h => by
    simp only [List.map_cons, List.nodup_cons] at hn
    by_cases e1 : e.1 = k
    · have hr := map_skip (r := r) (k := k) (x := x) (fun a ha e2 => hn.1 (List.mem_map.2 ⟨a, ha, e2.trans e1.symm⟩))
      rw [List.map_cons, hr, if_pos e1]
      simp [total]
      omega
    · have := total_bump (k := k) (x := x) hn.2 (by
        obtain ⟨a, ha, e2⟩ := h
        rcases List.mem_cons.1 ha with rfl | ha
        · exact absurd e2 e1
        · exact ⟨a, ha, e2⟩)
      rw [List.map_cons, if_neg e1]
      simp [total] at this ⊢
      omega

theorem push_total {m : WMap} (hn : (m.map (·.1)).Nodup) (k x : Nat × Int) : total (push m k x) = total m + 1 := by
  unfold push
  cases hl : look m k with
  | none => simp [total]
  | some ks => exact total_bump hn ⟨(k, ks), (look_some hn).1 hl, rfl⟩

theorem le_total {m : WMap} {e : (Nat × Int) × List (Nat × Int)} (he : e ∈ m) : e.2.length ≤ total m := by
  induction m with
  | nil => cases he
  | cons a r ih =>
    rcases List.mem_cons.1 he with rfl | h
    · simp [total]
    · have := ih h
      simp [total] at this ⊢
      omega

theorem push_good {nb : Nat} {m : WMap} (hg : GoodM nb m) {k x : Nat × Int} (hk : k.1 < 32 * nb) (hx : GoodK nb x) : GoodM nb (push m k x) := by
  unfold push
  cases hl : look m k with
  | none =>
    intro e he
    rcases List.mem_append.1 he with he | he
    · exact hg e he
    · simp at he
      subst he
      exact ⟨hk, fun y hy => by simp at hy; subst hy; exact hx⟩
  | some ks =>
    intro e he
    obtain ⟨a, ha, rfl⟩ := List.mem_map.1 he
    split
    · exact ⟨(hg a ha).1, fun y hy => by
        rcases List.mem_append.1 hy with h | h
        · exact (hg a ha).2 y h
        · simp at h; subst h; exact hx⟩
    · exact hg a ha

/-- What a wait of the group is. -/
def GoodP (nb : Nat) (p : (Nat × Int) × (Nat × Int)) : Prop := wfN p.1 ∧ p.1.1 < 32 * nb ∧ GoodK nb p.2

theorem mOf_facts {nb : Nat} (ws : List ((Nat × Int) × (Nat × Int))) (h : ∀ p ∈ ws, GoodP nb p) : ((mOf ws).map (·.1)).Nodup ∧ total (mOf ws) = ws.length ∧ GoodM nb (mOf ws) := by
  have : ∀ (n : Nat), n ≤ ws.length → ((mOf (ws.take n)).map (·.1)).Nodup ∧ total (mOf (ws.take n)) = n ∧ GoodM nb (mOf (ws.take n)) := by
    intro n
    induction n with
    | zero => intro _; exact ⟨by simp [mOf], by simp [mOf, total], fun e he => by simp [mOf] at he⟩
    | succ n ih =>
      intro hn
      obtain ⟨h1, h2, h3⟩ := ih (by omega)
      rw [List.take_succ_eq_append_getElem (by omega), mOf_snoc]
      have hp := h ws[n] (List.getElem_mem _)
      exact ⟨push_nodup h1 _ _, by rw [push_total h1, h2], push_good h3 hp.2.1 hp.2.2⟩
  have h1 := this ws.length (Nat.le_refl _)
  rw [List.take_length] at h1
  exact h1

/-- THE QUEUE AS BUILT, in a build that began in w. -/
structure Built (w : World) (q mb ab nb n : Nat) (sub : Nat → Option Nat) (L : Nat → Int × Int) (D : DataW Value) (m : WMap) (w' : World) : Prop where
  qc : QCells w' q mb ab nb
  lost : Lost w' ab nb sub L
  wts : Wts w' mb n D m
  below : Below w.heap.size w w'
  newM : w.heap.size ≤ mb
  newL : ∀ b, lostOwn ab nb sub b → w.heap.size ≤ b

theorem Built.set {w w1 w' : World} {q mb ab nb n : Nat} {sub sub' : Nat → Option Nat} {L L' : Nat → Int × Int} {D : DataW Value} {m : WMap} (h : Built w q mb ab nb n sub L D m w1) (hl : Lost w' ab nb sub' L') (hn : ∀ i s, i < nb → sub' i = some s → sub i = some s ∨ w1.heap.size ≤ s) (hf : Fr (lostOwn ab nb sub) w1 w') : Built w q mb ab nb n sub' L' D m w' := by
  refine ⟨h.qc.kept (fun c hb => hf.block _ (lt_of_heap hb) (h.lost.not_own hb (by decide) (by decide))), hl, h.wts.kept ?_ ?_, h.below.trans (hf.below h.below.size (fun i hi ho => by have := h.newL i ho; omega)), h.newM, fun b hb => ?_⟩
  · obtain ⟨es, k, hb⟩ := h.wts.mapAt
    exact hf.block _ (lt_of_heap hb) (h.lost.not_map hb)
  · intro b c t hb ht
    exact hf.block _ (lt_of_heap hb) (h.lost.not_own hb (by rcases ht with rfl | rfl <;> decide) (by rcases ht with rfl | rfl <;> decide))
  · rcases hb with rfl | ⟨i, hi, hs⟩
    · exact h.newL _ (Or.inl rfl)
    · rcases hn i b hi hs with h1 | h1
      · exact h.newL _ (Or.inr ⟨i, hi, h1⟩)
      · exact Nat.le_trans h.below.size h1

theorem Built.step {w w1 w' : World} {q mb ab nb n : Nat} {sub : Nat → Option Nat} {L : Nat → Int × Int} {D : DataW Value} {m : WMap} (h : Built w q mb ab nb n sub L D m w1) (hb : Below w1.heap.size w1 w') : Built w q mb ab nb n sub L D m w' :=
  ⟨h.qc.kept (fun _ h1 => hb.block _ (lt_of_heap h1)), h.lost.below hb, h.wts.below hb, h.below.trans (hb.mono h.below.size), h.newM, h.newL⟩

set_option maxHeartbeats 2000000 in
theorem build_calls (w : World) (size : Nat) (self : Int) (causal : Bool) (hs : size ≤ 65536) (a1 a2 : Option Addr) (cap1 cap2 : Nat) (ls : List (Int × Int)) (ws : List ((Nat × Int) × (Nat × Int))) (hl : InL w a1 ls) (hw : InW w a2 (ws.map toW)) (hll : ls.length ≤ 32 * ((size + 31) / 32)) (hwl : ws.length ≤ 4096) (hgp : ∀ p ∈ ws, GoodP ((size + 31) / 32) p) :
    Calls Try.prog 13 #[.int .i64 size, .int .i64 self, .bool causal, .slice a1 ls.length cap1, .slice a2 ws.length cap2] w fun e w' => ∃ q mb ab sub D, e = .returned (.pointer (some ⟨q, 0, none⟩)) ∧ Built w q mb ab ((size + 31) / 32) ws.length sub (Lof ls ls.length) D (mOf ws) w' := by
  have hnb : (size + 31) / 32 ≤ 1000000 := by omega
  obtain ⟨nb, hnbe⟩ : ∃ nb, nb = (size + 31) / 32 := ⟨_, rfl⟩
  have A : Aside (InL w a1 ls ∧ InW w a2 (ws.map toW) ∧ (∀ p ∈ ws, GoodP ((size + 31) / 32) p)) := ⟨hl, hw, hgp⟩
  have hlb : ls.length ≤ 100000 := by omega
  clear hl hw hgp
  go_enter Try.func13, Try.ntmps13
  go_wp2_with (go_at_call 34; refine (newZZ_calls size self causal hs _).mono ?_; rintro e w1 ⟨q, mb, ab, rfl, hb1⟩)
  have B : Aside (BSt w q mb ab ((size + 31) / 32) 0 (.map []) [] w1) := hb1
  clear hb1
  go_loopg [12] ws.length (fun j i wr => ∃ (k : Nat) (D : DataW Value), k ≤ ws.length ∧ i = .int .i64 k ∧ j = ws.length - k ∧ BSt w q mb ab ((size + 31) / 32) k D (mOf (ws.take k)) wr)
  case atStart => exact ⟨0, .map [], Nat.zero_le _, rfl, rfl, B.out⟩
  case round =>
    obtain ⟨k, D, hk, rfl, hgk, hst⟩ := hrel
    by_cases hlt : k < ws.length
    · obtain ⟨hl, hw, hgp⟩ := A.out
      rcases hw with h0 | ⟨b, off, rfl, hw⟩
      · rw [List.map_eq_nil_iff] at h0
        subst h0
        simp at hlt
      · have hp : GoodP ((size + 31) / 32) ws[k] := hgp _ (List.getElem_mem hlt)
        obtain ⟨x0, x1, x2, x3⟩ := hw k (by simpa using hlt)
        simp only [List.getElem_map, toW] at x0 x1 x2 x3
        have y0 := cell_later (Below.refl _ _) x0
        obtain ⟨⟨⟨ko, ks⟩, ⟨xo, xs⟩⟩, hv⟩ : ∃ v, v = ws[k] := ⟨_, rfl⟩
        rw [← hv] at x0 x1 x2 x3 hp
        have HS : Hid (∀ w', Below w.heap.size w w' → (w'.cell? ⟨b, off + k * 4, none⟩ = some (.int .i64 ko) ∧ w'.cell? ⟨b, off + k * 4 + 1, none⟩ = some (.int .u64 ks) ∧ w'.cell? ⟨b, off + k * 4 + 2, none⟩ = some (.int .i64 xo) ∧ w'.cell? ⟨b, off + k * 4 + 3, none⟩ = some (.int .u64 xs))) := fun w' hb => ⟨cell_later hb x0, cell_later hb x1, cell_later hb x2, cell_later hb x3⟩
        have hmf := mOf_facts (nb := (size + 31) / 32) (ws.take k) (fun p hp => hgp p (List.mem_of_mem_take hp))
        have hki : (k : Int) < ws.length := by omega
        have hk0 : (0 : Int) ≤ (k : Int) := by omega
        have C : Aside (BSt w q mb ab ((size + 31) / 32) k D (mOf (ws.take k)) wr ∧ gk = ws.length - k ∧ ((ko, ks), (xo, xs)) = ws[k] ∧ GoodP ((size + 31) / 32) ((ko, ks), (xo, xs)) ∧ (∀ e ∈ mOf (ws.take k), e.2.length ≤ 1000000)) := ⟨hst, hgk, hv, hp, fun e he => by have h1 := le_total he; have h2 := hmf.2.1; simp at h2; omega⟩
        have hwb : Below w.heap.size w wr := hst.below
        clear hst hgk hv hp x0 x1 x2 x3 y0 hmf hl hw hgp
        go_upto_region 5 with fail
        go_region_held3 (fun w' => w'.cell? ⟨b, off + k * 4, none⟩ = some (.int .i64 ko) ∧ w'.cell? ⟨b, off + k * 4 + 1, none⟩ = some (.int .u64 ks) ∧ w'.cell? ⟨b, off + k * 4 + 2, none⟩ = some (.int .i64 xo) ∧ w'.cell? ⟨b, off + k * 4 + 3, none⟩ = some (.int .u64 xs))
          (first | exact HS.out _ hwb.drew | exact HS.out _ (hwb.drew.trans (hb2.mono hwb.size)))
          (first | (go_at_call 29; refine (newWaiting_calls xo xs _).mono ?_; rintro e w2 ⟨bm, rfl, hbx, hb2⟩))
        have hst2 : BSt w q mb ab ((size + 31) / 32) k D (mOf (ws.take k)) w2 := (C.out.1.step (Below.refl _ _).drew).step hb2
        have hwb2 : Below w.heap.size w w2 := hst2.below
        have HC : Hid (Calls Try.prog 30 #[.pointer (some ⟨q, 0, none⟩), .pointer (some ⟨bm, 0, none⟩), .int .i64 ko, .int .u64 ks] w2.drew fun e w' => e = .returned (.tuple #[]) ∧ ∃ D', BSt w q mb ab ((size + 31) / 32) (k + 1) D' (push (mOf (ws.take k)) (ko, ks) (xo, xs)) w') := by
          obtain ⟨_, _, _, h4, h5⟩ := C.out
          exact waitZZ_calls hnb (hst2.step (Below.refl _ _).drew) (by omega) h5 ko ks h4.1 h4.2.1 bm (xo, xs) hbx
        clear hst2 hbx hb2
        go_upto_region 6 with fail
        go_region_held3 (fun w' => w'.cell? ⟨b, off + k * 4, none⟩ = some (.int .i64 ko) ∧ w'.cell? ⟨b, off + k * 4 + 1, none⟩ = some (.int .u64 ks) ∧ w'.cell? ⟨b, off + k * 4 + 2, none⟩ = some (.int .i64 xo) ∧ w'.cell? ⟨b, off + k * 4 + 3, none⟩ = some (.int .u64 xs))
          (first | exact HS.out _ hwb2.drew | exact HS.out _ hst3.below)
          (first | (go_at_call 30; refine HC.out.mono ?_; rintro e w3 ⟨rfl, D3, hst3⟩))
        have E : Aside (BSt w q mb ab ((size + 31) / 32) (k + 1) D3 (push (mOf (ws.take k)) (ko, ks) (xo, xs)) w3) := hst3
        clear hst3 HC HS
        go_wp2
        go_roundg (ws.length - (k + 1))
        case measure => have := C.out.2.1; omega
        case rel =>
          refine ⟨k + 1, D3, by omega, by go_num, rfl, ?_⟩
          rw [List.take_succ_eq_append_getElem hlt, mOf_snoc, ← C.out.2.2.1]
          exact E.out
    · have hkl : k = ws.length := by omega
      subst hkl
      rw [List.take_length] at hst
      have C : Aside (Built w q mb ab ((size + 31) / 32) ws.length (fun _ => none) (Lof ls 0) D (mOf ws) wr) := by
        refine ⟨hst.qc, ?_, hst.wts, hst.below, hst.news.1, fun b hb => ?_⟩
        · have : Lof ls 0 = fun _ => (0, 0) := by funext p; simp [Lof]
          rw [this]
          exact hst.lost
        · rcases hb with rfl | ⟨i, _, h⟩
          · exact hst.news.2.1
          · cases h
      clear hst hgk
      go_wp2
      go_loopg [14] ls.length (fun j i wr => ∃ (k : Nat) (sub : Nat → Option Nat), k ≤ ls.length ∧ i = .int .i64 k ∧ j = ls.length - k ∧ Built w q mb ab ((size + 31) / 32) ws.length sub (Lof ls k) D (mOf ws) wr)
      case atStart => exact ⟨0, _, Nat.zero_le _, rfl, rfl, C.out⟩
      case round =>
        obtain ⟨k2, sub, hk2, rfl, hgk, hst⟩ := hrel
        by_cases hlt2 : k2 < ls.length
        · obtain ⟨hl, hw, hgp⟩ := A.out
          rcases hl with h0 | ⟨b, off, rfl, hl⟩
          · subst h0
            simp at hlt2
          · obtain ⟨x0, x1⟩ := hl k2 hlt2
            obtain ⟨⟨f, l⟩, hv⟩ : ∃ v, v = ls[k2] := ⟨_, rfl⟩
            rw [← hv] at x0 x1
            have HS : Hid (∀ w', Below w.heap.size w w' → (w'.cell? ⟨b, off + k2 * 2, none⟩ = some (.int .u64 f) ∧ w'.cell? ⟨b, off + k2 * 2 + 1, none⟩ = some (.int .u64 l))) := fun w' hb => ⟨cell_later hb x0, cell_later hb x1⟩
            have hki : (k2 : Int) < ls.length := by omega
            have hk0 : (0 : Int) ≤ (k2 : Int) := by omega
            have hwb : Below w.heap.size w wr := hst.below
            have hst1 := hst.step (Below.refl _ _).drew
            have HC : Hid (Calls Try.prog 39 #[.pointer (some ⟨q, 0, none⟩), .int .i64 k2, .int .u64 f, .int .u64 l] wr.drew fun e w' => e = .returned (.tuple #[]) ∧ ∃ sub', Built w q mb ab ((size + 31) / 32) ws.length sub' (Lof ls (k2 + 1)) D (mOf ws) w') := by
              refine (setLost_calls hst1.qc hst1.lost k2 f l (by omega) hnb).mono ?_
              rintro e w' ⟨rfl, sub', h1, h2, h3⟩
              refine ⟨rfl, sub', hst1.set ?_ h2 h3⟩
              rw [← Lof_step ls k2 hlt2, ← hv]
              exact h1
            have HG : Hid (gk = ls.length - k2) := hgk
            clear hst hst1 hl hw hgp x0 x1 hv hgk
            go_upto_region 10 with fail
            go_region_held3 (fun w' => w'.cell? ⟨b, off + k2 * 2, none⟩ = some (.int .u64 f) ∧ w'.cell? ⟨b, off + k2 * 2 + 1, none⟩ = some (.int .u64 l))
              (first | exact HS.out _ hwb.drew | exact HS.out _ hst3.below)
              (first | (go_at_call 39; refine HC.out.mono ?_; rintro e w3 ⟨rfl, sub3, hst3⟩))
            have E : Aside (Built w q mb ab ((size + 31) / 32) ws.length sub3 (Lof ls (k2 + 1)) D (mOf ws) w3) := hst3
            clear hst3 HC HS
            go_wp2
            go_roundg (ls.length - (k2 + 1))
            case measure => have := HG.out; omega
            case rel => exact ⟨k2 + 1, sub3, by omega, by go_num, rfl, E.out⟩
        · have hk3 : k2 = ls.length := by omega
          rw [hk3] at hst
          have E : Aside (Built w q mb ab ((size + 31) / 32) ws.length sub (Lof ls ls.length) D (mOf ws) wr) := hst
          clear hst hk3 hgk
          go_wp2
          go_ret
          exact ⟨q, mb, ab, sub, D, rfl, E.out⟩
end Go.Proofs.Qxb6602500a
