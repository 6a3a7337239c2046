/-
  WALKS: FnCausesListAcrossAnyCut (4).
-/
import Derived.Test.Qxb6616102aWf
namespace Go.Proofs.Qxb6616102a
open Go.RowKit

theorem Lies.take {w : World} {a : Option Addr} {n m : Nat} {X : Nat → Cz} (h : Lies w a n X) (hm : m ≤ n) : Lies w a m X := fun i hi => h i (Nat.lt_of_lt_of_le hi hm)

/-- What a *Causes holds stands while nothing that is there is written. -/
theorem Has.later {w0 w w' : World} {cb : Nat} {X : Nat → Cz} {s k : Nat} {v : Value} (h : Has w0 w cb X s k v) (hb : Below w.heap.size w w') : Has w0 w' cb X s k v where
  below := h.below.trans (hb.mono (Nat.le_of_lt h.lt))
  lt := Nat.lt_of_lt_of_le h.lt hb.size
  c0 := by rw [hb.cell (p := ⟨cb, 0, none⟩) h.lt]; exact h.c0
  c1 := by rw [hb.cell (p := ⟨cb, 1, none⟩) h.lt]; exact h.c1
  c2 := by rw [hb.cell (p := ⟨cb, 2, none⟩) h.lt]; exact h.c2
  fz := fun j => by rw [hb.frozen (p := ⟨cb, j, none⟩) h.lt]; exact h.fz j
  own := by
    refine ⟨h.own.1, ?_⟩
    rcases h.own.2 with hn | ⟨g, cap, cur, hv, hg, hh, r⟩
    · exact .inl hn
    · exact .inr ⟨g, cap, cur, hv, hg, by rw [hb.block g (Array.getElem?_eq_some_iff.1 hh).1]; exact hh, r⟩
  fit := h.fit

theorem Has.self {w0 w : World} {cb : Nat} {X : Nat → Cz} {s k : Nat} {v : Value} (h : Has w0 w cb X s k v) : Has w w cb X s k v :=
  ⟨Below.refl _ _, h.lt, h.c0, h.c1, h.c2, h.fz, h.own, h.fit⟩

theorem Has.drewN {w0 w : World} {cb : Nat} {X : Nat → Cz} {s k : Nat} {v : Value} (h : Has w0 w cb X s k v) (q : Nat) : Has w0 (w.drewN q) cb X s k v :=
  h.later (below_drewN (Below.refl _ _) q)

theorem Lies.belowAt {w w' : World} {g n B : Nat} {X : Nat → Cz} (h : Lies w (some ⟨g, 0, none⟩) n X) (hg : g < B) (hb : Below B w w') : Lies w' (some ⟨g, 0, none⟩) n X := by
  intro i hi
  obtain ⟨b, off, he, hlt, c0, c1, c2, r⟩ := h i hi
  obtain ⟨rfl, rfl⟩ : g = b ∧ 0 = off := by simpa using he
  refine ⟨g, 0, rfl, Nat.lt_of_lt_of_le hlt hb.size, ?_, ?_, ?_, r⟩
  · rw [hb.cell (p := ⟨g, 0 + i * 3, none⟩) hg]; exact c0
  · rw [hb.cell (p := ⟨g, 0 + i * 3 + 1, none⟩) hg]; exact c1
  · rw [hb.cell (p := ⟨g, 0 + i * 3 + 2, none⟩) hg]; exact c2

theorem Lies.shift {w : World} {g n m : Nat} {X : Nat → Cz} (h : Lies w (some ⟨g, 0, none⟩) n X) (_hm : m ≤ n) : Lies w (some ⟨g, m * 3, none⟩) (n - m) (fun i => X (m + i)) := by
  intro i hi
  obtain ⟨b, off, he, hlt, c0, c1, c2, r⟩ := h (m + i) (by omega)
  obtain ⟨rfl, rfl⟩ : g = b ∧ 0 = off := by simpa using he
  have e : 0 + (m + i) * 3 = m * 3 + i * 3 := by omega
  rw [e] at c0 c1 c2
  exact ⟨g, m * 3, rfl, hlt, c0, c1, c2, r⟩

set_option maxHeartbeats 1000000 in
theorem law4 (a : Option Addr) (n c : Nat) (cut : Int) (X : Nat → Cz) (w : World) (hn : n ≤ maxLen) (hnc : n ≤ c) (hc : c ≤ maxLen) (hX : Lies w a n X) (ha : a = none → n = 0 ∧ c = 0) :
    Calls Try.prog 4 #[.slice a n c, .int .i64 cut] w fun e w' => e = .returned (.bool true) ∧ Below w.heap.size w w' := by
  have hn' := hn
  unfold maxLen at hn' hc
  by_cases hbig : (65536 : Int) < (n : Int)
  · go_enter Try.func4, Try.ntmps4
    go_wp2_with fail
    refine (bytes11 a n c X cut _ hn hX).mono ?_
    rintro e w' ⟨⟨r, rfl, hsmall⟩, rfl⟩
    cases r
    all_goals
      go_wp2_with fail
      go_ret
      exact ⟨rfl, Below.refl _ _⟩
  have hd : decide ((65536 : Int) < (n : Int)) = false := decide_eq_false hbig
  go_enter Try.func4, Try.ntmps4
  go_wp2_with fail
  refine (bytes11 a n c X cut _ hn hX).mono ?_
  rintro e w' ⟨⟨r, rfl, hsmall⟩, rfl⟩
  cases r
  · go_wp2_with fail
    go_ret
    exact ⟨rfl, Below.refl _ _⟩
  have hsm := hsmall rfl
  clear hsmall
  go_wp2_with fail
  go_loopw [5, 6] (fun t i wr => ∃ k q : Nat, k ≤ n ∧ i = .int .i64 k ∧ t = .int .i64 (tot X k : Nat) ∧ tot X k ≤ 1048576 ∧ wr = w.drewN q) (fun _ i _ => n - (intOf i).toNat)
  case atStart => exact ⟨0, 0, Nat.zero_le _, rfl, rfl, by simp [tot], rfl⟩
  case round =>
    obtain ⟨k, q, hk, rfl, rfl, htot, rfl⟩ := hrel
    by_cases hlt : k < n
    · obtain ⟨b, off, rfl, hb, c0, c1, c2, _⟩ := hX k hlt
      obtain ⟨l0, l1, l2⟩ := hsm k hlt
      have i1 : (k : Int) < (n : Int) := by omega
      have HT : Hid (((tot X (k + 1) : Nat) : Int) = (tot X k : Int) + (48 + ((X k).t.size : Int) + ((X k).m.size : Int) + ((X k).f.size : Int))) := by
        show _ = _
        rw [tot_succ]; omega
      clear ha
      go_wp2_with fail
      go_quiet (fail)
      go_wp2_with fail
      · go_ret
        exact ⟨rfl, below_drewN (Below.refl _ _) _⟩
      · go_roundw
        case rel => exact ⟨k + 1, q + nq, by omega, by go_num, by rw [HT.out], by have := HT.out; omega, rfl⟩
        case measure => simp [intOf]; omega
    · obtain rfl : k = n := by omega
      by_cases hc0 : cut < 0
      · go_wp2_with fail
        go_ret
        exact ⟨rfl, below_drewN (Below.refl _ _) _⟩
      by_cases hc1 : (k : Int) < cut
      · go_wp2_with fail
        go_ret
        exact ⟨rfl, below_drewN (Below.refl _ _) _⟩
      obtain ⟨m, rfl⟩ := Int.eq_ofNat_of_zero_le (show 0 ≤ cut by omega)
      have hmk : m ≤ k := by omega
      go_wp2_with fail
      refine (to6 a k c X _ (by omega) (hX.drewN q)).mono ?_
      rintro e w1 ⟨rfl, hb1, hs1, hrow⟩
      have hbw : Below w.heap.size w w1 := (below_drewN (Below.refl _ _) q).trans hb1
      have hL := hrow.lies htot
      have HS : Hid (w1.heap.size = w.heap.size + 1) := hs1
      have ha' : Hid (a = none → k = 0 ∧ c = 0) := ha
      clear hb1 hrow hs1 ha
      have i2 : (m : Int) ≤ (k : Int) := by omega
      go_wp2_with fail
      have htm : tot X m ≤ 1048576 := Nat.le_trans (tot_mono X hmk) htot
      refine (add7 w1.heap.size _ m k X 0 0 (.slice none 0 0) _ (by omega) (by simpa using htm) (by simpa using (hL.take hmk).alloc _) (fun b off he => ?_) (Has.zero w1 X)).mono ?_
      · have := HS.out
        simp at he
        omega
      rintro e w2 ⟨rfl, k', v', hH⟩
      rw [Nat.zero_add] at hH
      obtain ⟨va, vc, rfl, hLv⟩ := hH.lies htm
      have hb2 : Below w.heap.size w w2 := (hbw.alloc (by have := HS.out; omega) _).trans (hH.below.mono (by have := HS.out; omega))
      have hX2 := hX.below hb2
      have hL2 := (hL.alloc (.cells #[.slice none 0 0, .int .i64 0, .int .i64 0] 29))
      have hfit := hH.fit
      have d0 := hH.c0
      have d1 := hH.c1
      have d2 := hH.c2
      have hlt2 := hH.lt
      have hkm := hfit.le
      have i3 : (m : Int) ≤ (c : Int) := by omega
      have i4 : (0 : Int) ≤ (m : Int) := by omega
      have x0 : Lies w2.drew a m X := hX2.take hmk
      have x1 : ∀ o, Lies (w2.alloc o).drew a m X := fun o => (hX2.take hmk).alloc o
      have hne : w2.heap.size ≠ w1.heap.size := by omega
      go_wp2_with fail
      go_region_held3 (fun w' => w'.cell? ⟨w1.heap.size, 0, none⟩ = some (.slice va k' vc) ∧ w'.cell? ⟨w1.heap.size, 1, none⟩ = some (.int .i64 (S X k' : Nat)) ∧ w'.cell? ⟨w1.heap.size, 2, none⟩ = some (.int .i64 ((m - k' : Nat) : Int))) (go_keep)
        (first
          | (go_at_call 9; refine (list9 va k' vc _ _ _).mono ?_; rintro e w3 ⟨rfl, c9, rfl⟩)
          | (go_at_call 10; refine (fit10 a m c X _ (by omega) htm (by first | exact x0 | exact x1 _)).mono ?_; rintro e w4 ⟨⟨k2, rfl, hfit2⟩, hb4⟩; obtain rfl := hfit.uniq hfit2; have e0 := hb4.cell (p := ⟨w1.heap.size, 0, none⟩) (by simp; omega); have e1 := hb4.cell (p := ⟨w1.heap.size, 1, none⟩) (by simp; omega); have e2 := hb4.cell (p := ⟨w1.heap.size, 2, none⟩) (by simp; omega); have hbx : Below w2.heap.size w2 w4 := (by first | exact ((Below.refl _ _).drew).trans hb4 | exact (((Below.refl _ _).alloc (Nat.le_refl _) _).drew).trans (hb4.mono (by simp))); have hX4 := hX2.below hbx; have hL4 := hLv.below hbx; clear hb4)
          | (go_at_call 8; refine (listIs8 va a k' vc k c X _ (by omega) (by omega) (by first | exact hL4 | exact hL4.alloc _) (by first | exact hX4 | exact hX4.alloc _)).mono ?_; rintro e w5 ⟨rfl, q5, rfl⟩))
      have hLc : Lies w4 (some ⟨w.heap.size, 0, none⟩) k X := (hL2.belowAt (by have := HS.out; have h0 : (w.drewN q).heap.size = w.heap.size := rfl; omega) hH.below).below hbx
      clear hsm
      go_wp2_with fail
      · have hkeq : m = k := by omega
        subst hkeq
        have hH4 := ((hH.later hbx).self).drewN q5
        refine (add7 w1.heap.size _ 0 0 X m k' (.slice va k' vc) _ (by omega) (by first | exact htm | (rw [show m + (k - m) = k by omega]; exact htot)) (fun _ h => absurd h (Nat.not_lt_zero _)) (fun b off he => ?_) hH4.self).mono ?_
        · have := HS.out
          simp at he
          omega
        rintro e w6 ⟨rfl, k6, v6, hH6⟩
        rw [show m + 0 = m by omega] at hH6
        obtain ⟨va6, vc6, rfl, hL6⟩ := hH6.lies htot
        have hb6 : Below w.heap.size w w6 := (below_drewN (hb2.trans (hbx.mono hb2.size)) q5).trans (hH6.below.mono (by have := HS.out; omega))
        have hX6 := hX.below hb6
        have hfit6 := hH6.fit
        have f0 := hH6.c0
        have f1 := hH6.c1
        have f2 := hH6.c2
        clear hH6 hH4 hX4 hL4 hbx d0 d1 d2 e0 e1 e2 x0 x1 hb2 hL2 hLv hH hL hX2
        go_wp2_with fail
        refine (list9 va6 k6 vc6 _ _ w6).mono ?_
        rintro e w7 ⟨rfl, c7, rfl⟩
        go_wp2_with fail
        refine (fit10 a m c X _ (by omega) htot (hX6.alloc _)).mono ?_
        rintro e w8 ⟨⟨k8, rfl, hfit8⟩, hb8⟩
        obtain rfl := hfit6.uniq hfit8
        have hb9 : Below w.heap.size w w8 := (hb6.alloc (by have := hb6.size; omega) _).trans (hb8.mono (by have := hb6.size; simp; omega))
        have hX8 := hX.below hb9
        have hL8 := (hL6.alloc (.cells c7 29)).below hb8
        have hk8 := hfit8.le
        clear hb8 hX6 hL6 f0 f1 f2 hb6 hfit6 hfit8
        go_wp2_with fail
        refine (listIs8 va6 a k6 vc6 m c X _ hk8 (by omega) hL8 hX8).mono ?_
        rintro e w9 ⟨rfl, q9, rfl⟩
        go_wp2_with fail
        go_ret
        exact ⟨rfl, below_drewN hb9 _⟩
      · have hH4 := ((hH.later hbx).self).drewN q5
        refine (add7 w1.heap.size _ (k - m) (k - m) X m k' (.slice va k' vc) _ (by omega) (by first | exact htm | (rw [show m + (k - m) = k by omega]; exact htot)) ((hLc.shift hmk).drewN q5) (fun b off he => ?_) hH4.self).mono ?_
        · have := HS.out
          simp at he
          omega
        rintro e w6 ⟨rfl, k6, v6, hH6⟩
        rw [show m + (k - m) = k by omega] at hH6
        obtain ⟨va6, vc6, rfl, hL6⟩ := hH6.lies htot
        have hb6 : Below w.heap.size w w6 := (below_drewN (hb2.trans (hbx.mono hb2.size)) q5).trans (hH6.below.mono (by have := HS.out; omega))
        have hX6 := hX.below hb6
        have hfit6 := hH6.fit
        have f0 := hH6.c0
        have f1 := hH6.c1
        have f2 := hH6.c2
        clear hH6 hH4 hX4 hL4 hbx d0 d1 d2 e0 e1 e2 x0 x1 hb2 hL2 hLv hH hL hX2
        go_wp2_with fail
        refine (list9 va6 k6 vc6 _ _ w6).mono ?_
        rintro e w7 ⟨rfl, c7, rfl⟩
        go_wp2_with fail
        refine (fit10 a k c X _ (by omega) htot (hX6.alloc _)).mono ?_
        rintro e w8 ⟨⟨k8, rfl, hfit8⟩, hb8⟩
        obtain rfl := hfit6.uniq hfit8
        have hb9 : Below w.heap.size w w8 := (hb6.alloc (by have := hb6.size; omega) _).trans (hb8.mono (by have := hb6.size; simp; omega))
        have hX8 := hX.below hb9
        have hL8 := (hL6.alloc (.cells c7 29)).below hb8
        have hk8 := hfit8.le
        clear hb8 hX6 hL6 f0 f1 f2 hb6 hfit6 hfit8
        go_wp2_with fail
        refine (listIs8 va6 a k6 vc6 k c X _ hk8 (by omega) hL8 hX8).mono ?_
        rintro e w9 ⟨rfl, q9, rfl⟩
        go_wp2_with fail
        go_ret
        exact ⟨rfl, below_drewN hb9 _⟩

end Go.Proofs.Qxb6616102a
