/-
  WALKS: zzFittingCount (10).
-/
import Derived.Test.Qxb6616102aWc
namespace Go.Proofs.Qxb6616102a
open Go.RowKit

theorem Try.info3 : (Try.prog.info? 3).map (fun i => (i.zero, i.size, i.bytes)) = some (some (.int .i64 0), 1, 8) := by kernel_rfl

/-- What the row of prefix sums holds when the first k of them are reckoned. -/
def sumAt (X : Nat → Cz) (k i : Nat) : Value := .int .i64 ((if i ≤ k then S X i else 0 : Nat) : Int)

theorem sumAt_step (X : Nat → Cz) (k i : Nat) : (if i = k + 1 then Value.int .i64 ((S X k : Nat) + (sz (X k) : Nat) : Int) else sumAt X k i) = sumAt X (k + 1) i := by
  unfold sumAt
  by_cases h : i = k + 1
  · subst h; simp [S_succ]
  · by_cases h1 : i ≤ k
    · simp [h, h1, Nat.le_succ_of_le h1]
    · have h2 : ¬ i ≤ k + 1 := by omega
      simp [h, h1, h2]

theorem make40 (n : Nat) (hn : n ≤ 65536) (w : World) :
    (Instr.makeSlice 40 (.int .i64 ((n : Int) + 1)) (.int .i64 ((n : Int) + 1))).run Try.prog w = .ok (.slice (some ⟨w.heap.size, 0, none⟩) (n + 1) (n + 1)) (w.alloc (.cells (madeCells #[.int .i64 0] (n + 1)) 3)) := by
  have h := run_make_row' (P := Try.prog) 40 3 (.int .i64 0) 8 Try.underlying40 Try.info3 rfl .i64 .i64 (n + 1) (by omega) (by omega) w
  have ec : ((n + 1 : Nat) : Int) = (n : Int) + 1 := by omega
  rw [ec] at h
  exact h

theorem Lies.below {w w' : World} {a : Option Addr} {n : Nat} {X : Nat → Cz} (h : Lies w a n X) (hb : Below w.heap.size w w') : Lies w' a n X := by
  intro i hi
  obtain ⟨b, off, rfl, hlt, c0, c1, c2, r⟩ := h i hi
  refine ⟨b, off, rfl, Nat.lt_of_lt_of_le hlt hb.size, ?_, ?_, ?_, r⟩
  · rw [hb.cell (p := ⟨b, off + i * 3, none⟩) hlt]; exact c0
  · rw [hb.cell (p := ⟨b, off + i * 3 + 1, none⟩) hlt]; exact c1
  · rw [hb.cell (p := ⟨b, off + i * 3 + 2, none⟩) hlt]; exact c2

theorem cell_other (w : World) {p q : Addr} (v : Value) (h : p ≠ q) : (w.setCell p v).cell? q = w.cell? q := by
  exact World.cell?_setCell_other _ _ _ _ h

set_option maxHeartbeats 1000000 in
theorem fit10 (a : Option Addr) (n c : Nat) (X : Nat → Cz) (w : World) (hn : n ≤ 65536) (ht : tot X n ≤ 1048576) (hX : Lies w a n X) :
    Calls Try.prog 10 #[.slice a n c] w fun e w' => (∃ k, e = .returned (.int .i64 (k : Nat)) ∧ IsFit X n k) ∧ Below w.heap.size w w' := by
  have hmk := make40 n hn
  go_enter Try.func10, Try.ntmps10
  go_wp2
  go_loopw [5] (fun i wr => ∃ k : Nat, k ≤ n ∧ i = .int .i64 k ∧ Below w.heap.size w wr ∧ wr.rowIs w.heap.size 3 (n + 1) (sumAt X k)) (fun i _ => n - (intOf i).toNat)
  case atStart =>
    refine ⟨0, Nat.zero_le _, rfl, (Below.refl _ _).alloc (Nat.le_refl _) _, (World.rowIs_made w (.int .i64 0) (n + 1) 3).congr fun i _ => ?_⟩
    unfold sumAt; by_cases h : i ≤ 0
    · rw [Nat.le_zero.1 h]; simp [S]
    · simp [h]
  case round =>
    obtain ⟨k, hk, rfl, hbe, hrow⟩ := hrel
    by_cases hlt : k < n
    · obtain ⟨b, off, rfl, hb, c0, c1, c2, l0, l1, l2⟩ := hX k hlt
      rw [← hbe.cell (p := ⟨b, off + k * 3, none⟩) hb] at c0
      rw [← hbe.cell (p := ⟨b, off + k * 3 + 1, none⟩) hb] at c1
      rw [← hbe.cell (p := ⟨b, off + k * 3 + 2, none⟩) hb] at c2
      have hs1 := tot_mono X (show k + 1 ≤ n from hlt)
      rw [tot_succ] at hs1
      have hs2 := S_le_tot X k
      have d0 : wr.cell? ⟨w.heap.size, k, none⟩ = some (.int .i64 (S X k : Nat)) := by
        rw [hrow.cell (show k < n + 1 by omega)]; simp [sumAt]
      have d1 := hrow.cell (show k + 1 < n + 1 by omega)
      have e1 := hrow.frozen (k + 1)
      have hz : sz (X k) ≤ 2097152 := by unfold sz; omega
      have hne : w.heap.size ≠ b := by omega
      have hwz := hrow.lt
      have hne2 : wr.heap.size ≠ b := by omega
      have hne3 : wr.heap.size ≠ w.heap.size := by omega
      have i1 : (k : Int) < (n : Int) := by omega
      have i2 : (k : Int) + 1 < (n : Int) + 1 := by omega
      have i3 : (k : Int) < (n : Int) + 1 := by omega
      have i4 : (0 : Int) ≤ (k : Int) + 1 := by omega
      have i5 : IntKind.i64.wrap ((k : Int) + 1) = (k : Int) + 1 := by rw [IntKind.wrap_i64]; omega
      have d2 : ∀ v, (wr.setCell ⟨w.heap.size, k + 1, none⟩ v).cell? ⟨w.heap.size, k, none⟩ = some (.int .i64 (S X k : Nat)) := fun v => by
        rw [cell_other _ _ (by simp)]; exact d0
      go_wp2
      go_region_held3 (fun w' => w'.cell? ⟨w.heap.size, k, none⟩ = some (.int .i64 (S X k : Nat)) ∧ w'.cell? ⟨b, off + k * 3, none⟩ = some (.string (X k).t) ∧ w'.cell? ⟨b, off + k * 3 + 1, none⟩ = some (.string (X k).m) ∧ w'.cell? ⟨b, off + k * 3 + 2, none⟩ = some (.string (X k).f)) (go_keep)
        (first | (go_at_call 13; refine (size13 (X k) _ (by omega) (by omega) (by omega)).mono ?_; rintro e w' ⟨rfl, cc, rfl⟩))
      go_wp2
      go_roundw
      case rel =>
        refine ⟨k + 1, by omega, by go_num, ((hbe.setCell (p := ⟨w.heap.size, k + 1, none⟩) (Nat.le_refl _) _).alloc (by simp [World.setCell]; omega) _).drew, (((hrow.set (k + 1) _).alloc _).drew).congr fun i _ => ?_⟩
        exact sumAt_step X k i
      case measure => simp [intOf]; omega
    · obtain rfl : k = n := by omega
      have hs2 := S_le_tot X k
      have hcell : ∀ j, j ≤ k → wr.cell? ⟨w.heap.size, j, none⟩ = some (.int .i64 (S X j : Nat)) := fun j hj => by
        rw [hrow.cell (show j < k + 1 by omega)]; simp [sumAt, hj]
      clear hrow
      go_wp2
      go_loop [6] (fun i => ∃ j : Nat, j ≤ k ∧ i = .int .i64 j ∧ (j < k → 65536 < S X (j + 1))) (fun i => (intOf i).toNat)
      case atStart => exact ⟨k, Nat.le_refl _, rfl, fun h => absurd h (Nat.lt_irrefl _)⟩
      case round =>
        obtain ⟨j, hj, rfl, hnext⟩ := hrel
        have hc := hcell j hj
        have HN : Hid (j < k → 65536 < S X (j + 1)) := hnext
        have HF : Hid (∀ j, j ≤ k → wr.cell? ⟨w.heap.size, j, none⟩ = some (.int .i64 (S X j : Nat))) := hcell
        clear hnext hcell
        have i1 : (j : Int) < (k : Int) + 1 := by omega
        by_cases h0 : 0 < j
        · by_cases hbig : 65536 < S X j
          · have hb1 : (0 : Int) < (j : Int) := by omega
            have hb2 : (65536 : Int) < (S X j : Int) := by omega
            obtain ⟨j', rfl⟩ : ∃ j', j = j' + 1 := ⟨j - 1, by omega⟩
            go_wp2
            go_round
            case rel => exact ⟨j', by omega, by go_num, fun _ => hbig⟩
            case measure => simp [intOf]
          · have hb1 : (0 : Int) < (j : Int) := by omega
            have hb2 : ¬ (65536 : Int) < (S X j : Int) := by omega
            go_wp2
            go_ret
            exact ⟨⟨j, rfl, hj, by omega, HN.out⟩, hbe⟩
        · obtain rfl : j = 0 := by omega
          have hb1 : ¬ (0 : Int) < ((0 : Nat) : Int) := by omega
          go_wp2
          go_ret
          exact ⟨⟨0, rfl, hj, by simp [S], HN.out⟩, hbe⟩

end Go.Proofs.Qxb6616102a
