/-
  WALKS: zzToCauses (6).
-/
import Derived.Test.Qxb6616102aWa
import Derived.Deep.RegionHeld3
import Derived.Deep.LoopGhost
import Derived.Deep.OwnRows
namespace Go.Proofs.Qxb6616102a
open Go.RowKit

theorem Try.info37 : (Try.prog.info? 37).map (fun i => (i.zero, i.size, i.bytes)) = some (some (.agg #[.string ByteArray.empty, .string ByteArray.empty, .string ByteArray.empty]), 3, 48) := by kernel_rfl

/-- Block g holds n causes of which the first k are those of X. -/
def Row3 (w : World) (g n k : Nat) (X : Nat → Cz) : Prop :=
  ∃ cur : Array Value, w.heap[g]? = some (.cells cur 37 (0, 0)) ∧ cur.size = n * 3 ∧ ∀ i, i < k → cur[i * 3]? = some (.string (X i).t) ∧ cur[i * 3 + 1]? = some (.string (X i).m) ∧ cur[i * 3 + 2]? = some (.string (X i).f)

theorem make37 (n : Nat) (hn : n ≤ 1048576) (w : World) :
    (Instr.makeSlice 26 (.int .i64 (n : Int)) (.int .i64 (n : Int))).run Try.prog w = .ok (.slice (some ⟨w.heap.size, 0, none⟩) n n) (w.alloc (.cells (madeCells #[.string ByteArray.empty, .string ByteArray.empty, .string ByteArray.empty] (n * 3)) 37)) := by
  obtain ⟨i, hi, hz0, hz1, hz2⟩ := info_parts Try.info37
  have h := run_make (P := Try.prog) w 26 37 i _ Try.underlying26 hi hz0 .i64 .i64 n n (by omega) (Int.le_refl _) (by rw [hz2]; omega) (by omega)
  simpa [hz1, Value.cells] using h

theorem Row3.start (w : World) (n : Nat) (X : Nat → Cz) (z : Array Value) : Row3 (w.alloc (.cells (madeCells z (n * 3)) 37)) w.heap.size n 0 X :=
  ⟨_, heap_alloc_new w _, size_madeCells _ _, fun _ hi => absurd hi (Nat.not_lt_zero _)⟩

theorem cellAt {w : World} {g j : Nat} {e : TypeId} {cur : Array Value} (h : w.heap[g]? = some (.cells cur e (0, 0))) (hj : j < cur.size) : w.cell? ⟨g, j, none⟩ = some (cur.getD j undef) := by
  rw [cell_of_row w g j cur e (0, 0) h]
  simp [Array.getD, hj]

/-- One store of a cause. -/
def put3 (w : World) (g k : Nat) (x : Cz) : World := ((w.setCell ⟨g, k * 3, none⟩ (.string x.t)).setCell ⟨g, k * 3 + 1, none⟩ (.string x.m)).setCell ⟨g, k * 3 + 2, none⟩ (.string x.f)

theorem heap_setCell_same {w : World} {g j : Nat} {e : TypeId} {cur : Array Value} (h : w.heap[g]? = some (.cells cur e (0, 0))) (v : Value) : (w.setCell ⟨g, j, none⟩ v).heap[g]? = some (.cells (cur.setIfInBounds j v) e (0, 0)) := by
  simp [World.setCell, Array.getElem?_modify, h]

theorem Row3.put {w : World} {g n k : Nat} {X : Nat → Cz} (h : Row3 w g n k X) (hk : k < n) : Row3 (put3 w g k (X k)).drew g n (k + 1) X := by
  obtain ⟨cur, hh, hs, hall⟩ := h
  have h1 := heap_setCell_same (j := k * 3) hh (.string (X k).t)
  have h2 := heap_setCell_same (j := k * 3 + 1) h1 (.string (X k).m)
  have h3 := heap_setCell_same (j := k * 3 + 2) h2 (.string (X k).f)
  refine ⟨_, h3, by simpa using hs, fun i hi => ?_⟩
  have b0 : k * 3 < cur.size := by omega
  have b1 : k * 3 + 1 < cur.size := by omega
  have b2 : k * 3 + 2 < cur.size := by omega
  rcases Nat.lt_succ_iff_lt_or_eq.1 hi with hlt | rfl
  · obtain ⟨a0, a1, a2⟩ := hall i hlt
    refine ⟨?_, ?_, ?_⟩
    · rw [Array.getElem?_setIfInBounds_ne (by omega), Array.getElem?_setIfInBounds_ne (by omega), Array.getElem?_setIfInBounds_ne (by omega)]; exact a0
    · rw [Array.getElem?_setIfInBounds_ne (by omega), Array.getElem?_setIfInBounds_ne (by omega), Array.getElem?_setIfInBounds_ne (by omega)]; exact a1
    · rw [Array.getElem?_setIfInBounds_ne (by omega), Array.getElem?_setIfInBounds_ne (by omega), Array.getElem?_setIfInBounds_ne (by omega)]; exact a2
  · refine ⟨?_, ?_, ?_⟩
    · rw [Array.getElem?_setIfInBounds_ne (by omega), Array.getElem?_setIfInBounds_ne (by omega), Array.getElem?_setIfInBounds_self_of_lt b0]
    · rw [Array.getElem?_setIfInBounds_ne (by omega), Array.getElem?_setIfInBounds_self_of_lt (by simpa using b1)]
    · rw [Array.getElem?_setIfInBounds_self_of_lt (by simpa using b2)]

theorem below_put3 {B : Nat} {a w : World} (h : Below B a w) {g k : Nat} (hg : B ≤ g) (x : Cz) : Below B a (put3 w g k x).drew :=
  (((h.setCell (p := ⟨g, k * 3, none⟩) hg _).setCell (p := ⟨g, k * 3 + 1, none⟩) hg _).setCell (p := ⟨g, k * 3 + 2, none⟩) hg _).drew

theorem size_put3 (w : World) (g k : Nat) (x : Cz) : (put3 w g k x).drew.heap.size = w.heap.size := by simp [put3, World.setCell, World.drew]

set_option maxHeartbeats 1000000 in
theorem to6 (a : Option Addr) (n c : Nat) (X : Nat → Cz) (w : World) (hn : n ≤ 65536) (hX : Lies w a n X) :
    Calls Try.prog 6 #[.slice a n c] w fun e w' => e = .returned (.slice (some ⟨w.heap.size, 0, none⟩) n n) ∧ Below w.heap.size w w' ∧ w'.heap.size = w.heap.size + 1 ∧ Row3 w' w.heap.size n n X := by
  have hmk := make37 n (by omega)
  go_enter Try.func6, Try.ntmps6
  go_wp2
  go_loopw [4] (fun i wr => ∃ k : Nat, k ≤ n ∧ i = .int .i64 k ∧ Below w.heap.size w wr ∧ wr.heap.size = w.heap.size + 1 ∧ Row3 wr w.heap.size n k X) (fun i _ => n - (intOf i).toNat)
  case atStart => exact ⟨0, Nat.zero_le _, rfl, (Below.refl _ _).alloc (Nat.le_refl _) _, by simp, Row3.start _ _ _ _⟩
  case round =>
    obtain ⟨k, hk, rfl, hbe, hsz, hrow⟩ := hrel
    by_cases hlt : k < n
    · obtain ⟨b, off, rfl, hb, c0, c1, c2, l0, l1, l2⟩ := hX k hlt
      rw [← hbe.cell (p := ⟨b, off + k * 3, none⟩) hb] at c0
      rw [← hbe.cell (p := ⟨b, off + k * 3 + 1, none⟩) hb] at c1
      rw [← hbe.cell (p := ⟨b, off + k * 3 + 2, none⟩) hb] at c2
      obtain ⟨cur, hh, hcs, hall⟩ := id hrow
      have d0 := cellAt (j := k * 3) hh (by omega)
      have d1 := cellAt (j := k * 3 + 1) hh (by omega)
      have d2 := cellAt (j := k * 3 + 2) hh (by omega)
      have e0 : ∀ j, wr.frozen? ⟨w.heap.size, j, none⟩ = false := fun j => by simp [World.frozen?, hh]
      have hne : w.heap.size ≠ b := by omega
      have HS : Hid (wr.heap.size = w.heap.size + 1) := hsz
      clear hsz hh hall
      go_wp2
      go_region_held3 (fun w' => w'.cell? ⟨b, off + k * 3, none⟩ = some (.string (X k).t) ∧ w'.cell? ⟨b, off + k * 3 + 1, none⟩ = some (.string (X k).m) ∧ w'.cell? ⟨b, off + k * 3 + 2, none⟩ = some (.string (X k).f)) (go_keep) (fail)
      go_wp2
      go_roundw
      case rel => exact ⟨k + 1, by omega, by go_num, below_put3 hbe (Nat.le_refl _) (X k), by rw [← HS.out]; exact size_put3 wr w.heap.size k (X k), Row3.put hrow hlt⟩
      case measure => simp [intOf]; omega
    · go_wp2
      go_ret
      obtain rfl : k = n := by omega
      exact ⟨rfl, hbe, hsz, hrow⟩

end Go.Proofs.Qxb6616102a
