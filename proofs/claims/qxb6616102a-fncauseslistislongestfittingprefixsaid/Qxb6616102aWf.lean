/-
  WALKS: FnCausesListIsLongestFittingPrefix (3).
-/
import Derived.Test.Qxb6616102aWe
namespace Go.Proofs.Qxb6616102a
open Go.RowKit

theorem cellsX_length (X : Nat → Cz) (k : Nat) : (cellsX X k).length = k * 3 := by
  induction k with
  | zero => rfl
  | succ k ih => simp [cellsX, ih]; omega

theorem cellsX_get (X : Nat → Cz) (k i : Nat) (h : i < k) : (cellsX X k)[i * 3]? = some (.string (X i).t) ∧ (cellsX X k)[i * 3 + 1]? = some (.string (X i).m) ∧ (cellsX X k)[i * 3 + 2]? = some (.string (X i).f) := by
  induction k with
  | zero => omega
  | succ k ih =>
    have hl := cellsX_length X k
    rcases Nat.lt_succ_iff_lt_or_eq.1 h with hlt | rfl
    · obtain ⟨a, b, c⟩ := ih hlt
      simp only [cellsX]
      rw [List.getElem?_append_left (by omega), List.getElem?_append_left (by omega), List.getElem?_append_left (by omega)]
      exact ⟨a, b, c⟩
    · simp only [cellsX]
      rw [List.getElem?_append_right (by omega), List.getElem?_append_right (by omega), List.getElem?_append_right (by omega), hl]
      have e0 : i * 3 - i * 3 = 0 := by omega
      have e1 : i * 3 + 1 - i * 3 = 1 := by omega
      have e2 : i * 3 + 2 - i * 3 = 2 := by omega
      rw [e0, e1, e2]
      exact ⟨rfl, rfl, rfl⟩

theorem tot_le {X : Nat → Cz} {n i : Nat} (hi : i < n) (ht : tot X n ≤ 1048576) : (X i).t.size ≤ maxLen ∧ (X i).m.size ≤ maxLen ∧ (X i).f.size ≤ maxLen := by
  have h := tot_mono X (show i + 1 ≤ n from hi)
  rw [tot_succ] at h
  unfold maxLen
  omega

theorem Has.lies {w0 w : World} {cb : Nat} {X : Nat → Cz} {s k : Nat} {v : Value} (h : Has w0 w cb X s k v) (ht : tot X s ≤ 1048576) : ∃ va vc, v = .slice va k vc ∧ Lies w va k X := by
  rcases h.own.2 with ⟨rfl, rfl⟩ | ⟨g, cap, cur, rfl, hb, hg, _⟩
  · exact ⟨none, 0, rfl, fun i hi => absurd hi (Nat.not_lt_zero _)⟩
  · refine ⟨some ⟨g, 0, none⟩, cap, rfl, fun i hi => ⟨g, 0, rfl, ?_, ?_, ?_, ?_, tot_le (Nat.lt_of_lt_of_le hi h.fit.le) ht⟩⟩
    · exact (Array.getElem?_eq_some_iff.1 hg).1
    all_goals
      obtain ⟨a0, a1, a2⟩ := cellsX_get X k i hi
      first
        | (have h1 := h.own.cells rfl _ _ a2; rw [Addr.add_lit] at h1; exact h1)
        | (have h1 := h.own.cells rfl _ _ a1; rw [Addr.add_lit] at h1; exact h1)
        | (have h1 := h.own.cells rfl _ _ a0; rw [Addr.add_lit] at h1; exact h1)

theorem Row3.lies {w : World} {g n : Nat} {X : Nat → Cz} (h : Row3 w g n n X) (ht : tot X n ≤ 1048576) : Lies w (some ⟨g, 0, none⟩) n X := by
  obtain ⟨cur, hh, hs, hall⟩ := h
  intro i hi
  obtain ⟨a0, a1, a2⟩ := hall i hi
  refine ⟨g, 0, rfl, (Array.getElem?_eq_some_iff.1 hh).1, ?_, ?_, ?_, tot_le hi ht⟩
  · rw [cell_of_row w g _ cur 37 (0, 0) hh, Nat.zero_add]; exact a0
  · rw [cell_of_row w g _ cur 37 (0, 0) hh, Nat.zero_add]; exact a1
  · rw [cell_of_row w g _ cur 37 (0, 0) hh, Nat.zero_add]; exact a2

theorem Has.zero (w : World) (X : Nat → Cz) : Has (w.alloc (.cells #[.slice none 0 0, .int .i64 0, .int .i64 0] 29)) (w.alloc (.cells #[.slice none 0 0, .int .i64 0, .int .i64 0] 29)) w.heap.size X 0 0 (.slice none 0 0) where
  below := Below.refl _ _
  lt := by simp
  c0 := by simp
  c1 := by simp [S]
  c2 := by simp
  fz := fun j => by rw [frozen?_alloc_cells]; simp [World.frozen?]
  own := World.ownsRow_nil _ _ _ _
  fit := IsFit.zero X

theorem Lies.drewN {w : World} {a : Option Addr} {n : Nat} {X : Nat → Cz} (h : Lies w a n X) (q : Nat) : Lies (w.drewN q) a n X := h.below (below_drewN (Below.refl _ _) q)
theorem Lies.alloc {w : World} {a : Option Addr} {n : Nat} {X : Nat → Cz} (h : Lies w a n X) (o : Obj) : Lies (w.alloc o) a n X := h.below ((Below.refl _ _).alloc (Nat.le_refl _) o)

set_option maxHeartbeats 1000000 in
theorem law3 (a : Option Addr) (n c : Nat) (X : Nat → Cz) (w : World) (hn : n ≤ maxLen) (hX : Lies w a n X) :
    Calls Try.prog 3 #[.slice a n c] w fun e w' => e = .returned (.bool true) ∧ Below w.heap.size w w' := by
  have hn' := hn
  unfold maxLen at hn'
  by_cases hbig : (65536 : Int) < (n : Int)
  · go_enter Try.func3, Try.ntmps3
    go_wp2_with fail
    refine (bytes5 a n c X _ hn hX).mono ?_
    rintro e w' ⟨⟨r, rfl, hsmall⟩, rfl⟩
    cases r
    all_goals
      go_wp2_with fail
      go_ret
      exact ⟨rfl, Below.refl _ _⟩
  have hd : decide ((65536 : Int) < (n : Int)) = false := decide_eq_false hbig
  go_enter Try.func3, Try.ntmps3
  go_wp2_with fail
  refine (bytes5 a n c X _ hn hX).mono ?_
  rintro e w' ⟨⟨r, rfl, hsmall⟩, rfl⟩
  cases r
  · go_wp2_with fail
    go_ret
    exact ⟨rfl, Below.refl _ _⟩
  have hsm := hsmall rfl
  clear hsmall
  go_wp2_with fail
  go_loopw [3, 4] (fun t i wr => ∃ k q : Nat, k ≤ n ∧ i = .int .i64 k ∧ t = .int .i64 (tot X k : Nat) ∧ tot X k ≤ 1048576 ∧ wr = w.drewN q) (fun _ i _ => n - (intOf i).toNat)
  case atStart => exact ⟨0, 0, Nat.zero_le _, rfl, rfl, by simp [tot], rfl⟩
  case round =>
    obtain ⟨k, q, hk, rfl, rfl, htot, rfl⟩ := hrel
    by_cases hlt : k < n
    · obtain ⟨b, off, rfl, hb, c0, c1, c2, _⟩ := hX k hlt
      obtain ⟨l0, l1, l2⟩ := hsm k hlt
      have i1 : (k : Int) < (n : Int) := by omega
      have HT : Hid (((tot X (k + 1) : Nat) : Int) = (tot X k : Int) + (48 + ((X k).t.size : Int) + ((X k).m.size : Int) + ((X k).f.size : Int))) := by
        show _ = _
        rw [tot_succ]; omega
      go_wp2_with fail
      go_quiet (fail)
      go_wp2_with fail
      · go_ret
        exact ⟨rfl, below_drewN (Below.refl _ _) _⟩
      · go_roundw
        case rel => exact ⟨k + 1, q + nq, by omega, by go_num, by rw [HT.out], by have := HT.out; omega, rfl⟩
        case measure => simp [intOf]; omega
    · obtain rfl : k = n := by omega
      go_wp2_with fail
      refine (to6 a k c X _ (by omega) (hX.drewN q)).mono ?_
      rintro e w1 ⟨rfl, hb1, hs1, hrow⟩
      have hbw : Below w.heap.size w w1 := (below_drewN (Below.refl _ _) q).trans hb1
      have hL := hrow.lies htot
      have hXw := hX.below hbw
      have HS : Hid (w1.heap.size = w.heap.size + 1) := hs1
      clear hb1 hrow hs1
      go_wp2_with fail
      refine (add7 w1.heap.size _ k k X 0 0 (.slice none 0 0) _ (by omega) (by simpa using htot) (by simpa using hL.alloc _) (fun b off he => ?_) (Has.zero w1 X)).mono ?_
      · have := HS.out
        simp at he
        omega
      rintro e w2 ⟨rfl, k', v', hH⟩
      rw [Nat.zero_add] at hH
      obtain ⟨va, vc, rfl, hLv⟩ := hH.lies htot
      have hb2 : Below w.heap.size w w2 := (hbw.alloc (by have := HS.out; omega) _).trans (hH.below.mono (by have := HS.out; omega))
      have hX2 := hX.below hb2
      have hfit := hH.fit
      have d0 := hH.c0
      have d1 := hH.c1
      have d2 := hH.c2
      clear hXw hbw hL hH
      go_wp2_with fail
      refine (list9 va k' vc _ _ w2).mono ?_
      rintro e w3 ⟨rfl, c9, rfl⟩
      go_wp2_with fail
      refine (fit10 a k c X _ (by omega) htot (hX2.alloc _)).mono ?_
      rintro e w4 ⟨⟨k2, rfl, hfit2⟩, hb4⟩
      obtain rfl := hfit.uniq hfit2
      have hb5 : Below w.heap.size w w4 := (hb2.alloc (by have := hb2.size; omega) _).trans (hb4.mono (by have := hb2.size; simp; omega))
      have hX4 := hX.below hb5
      have hL4 := (hLv.alloc (.cells c9 29)).below hb4
      have hk2 := hfit2.le
      clear hb4 hX2 hLv d0 d1 d2 hb2 hfit hfit2
      go_wp2_with fail
      refine (listIs8 va a k' vc k c X _ hk2 (by omega) hL4 hX4).mono ?_
      rintro e w5 ⟨rfl, q5, rfl⟩
      go_wp2_with fail
      go_ret
      exact ⟨rfl, below_drewN hb5 _⟩

end Go.Proofs.Qxb6616102a
