/-
  WALKS: cloneStrings (9), fitsBytes (8), zzBytes (7), ZZnewField (10).
-/
import Derived.Test.Qxb6616116aWb
import Derived.Lib.SliceRun
import Derived.Laws.EntriesVeiled
namespace Go.Proofs.Qxb6616116a
open Go.RowKit

theorem Try.info9 : (Try.prog.info? 9).map (fun i => (i.zero, i.size, i.bytes)) = some (some (.string ByteArray.empty), 1, 16) := by kernel_rfl

theorem make22 (n : Nat) (hn : n ≤ 1048576) (w : World) :
    (Instr.makeSlice 22 (.int .i64 (n : Int)) (.int .i64 (n : Int))).run Try.prog w = .ok (.slice (some ⟨w.heap.size, 0, none⟩) n n) (w.alloc (.cells (madeCells #[.string ByteArray.empty] n) 9)) :=
  run_make_row' (P := Try.prog) 22 9 (.string ByteArray.empty) 16 Try.underlying22 Try.info9 rfl .i64 .i64 n (by omega) (by omega) w

/-- The row of texts when the first k have been copied. -/
def rows (N : Nat → ByteArray) (k i : Nat) : Value := .string (if i < k then N i else ByteArray.empty)

theorem rows_step (N : Nat → ByteArray) (k i : Nat) : (if i = k then Value.string (N k) else rows N k i) = rows N (k + 1) i := by
  unfold rows
  by_cases e : i = k
  · subst e
    rw [if_pos rfl, if_pos (Nat.lt_succ_self _)]
  · rw [if_neg e]
    by_cases h1 : i < k
    · rw [if_pos h1, if_pos (by omega)]
    · rw [if_neg h1, if_neg (by omega)]

theorem nil22 (a : Option Addr) (n c : Nat) (w : World) : (binOp .eql 22 (.slice a n c) (.slice none 0 0)).run Try.prog w = .ok (.bool a.isNone) w :=
  Lib.run_eql_slice_nil w 22 9 a n c 0 0 Try.underlying22

set_option maxHeartbeats 1000000 in
theorem clone9_some (ad : Addr) (n c : Nat) (N : Nat → ByteArray) (w : World) (hn : n ≤ 1048576) (hN : Ns w (some ad) n N) :
    Calls Try.prog 9 #[.slice (some ad) n c] w fun e w' => e = .returned (.slice (some ⟨w.heap.size, 0, none⟩) n n) ∧ Below w.heap.size w w' ∧ Ns w' (some ⟨w.heap.size, 0, none⟩) n N := by
  have hmk := make22 n hn
  have hnil := nil22 (some ad) n c
  go_enter Try.func9, Try.ntmps9
  go_wp2
  go_loopw [4] (fun i wr => ∃ k : Nat, k ≤ n ∧ i = .int .i64 k ∧ Below w.heap.size w wr ∧ wr.rowIs w.heap.size 9 n (rows N k)) (fun i _ => n - (intOf i).toNat)
  case atStart => exact ⟨0, Nat.zero_le _, rfl, (Below.refl _ _).alloc (Nat.le_refl _) _, (World.rowIs_made w (.string ByteArray.empty) n 9).congr fun i _ => by simp [rows]⟩
  case round =>
    obtain ⟨k, hk, rfl, hbe, hrow⟩ := hrel
    by_cases hlt : k < n
    · obtain ⟨b, off, had, hb, c0, _⟩ := hN k hlt
      obtain rfl := Option.some.inj had
      rw [← hbe.cell (p := ⟨b, off + k, none⟩) hb] at c0
      have d1 := hrow.cell hlt
      have e1 := hrow.frozen k
      have i1 : (k : Int) < (n : Int) := by omega
      go_wp2
      go_roundw
      case rel => exact ⟨k + 1, by omega, by go_num, hbe.setCell (p := ⟨w.heap.size, k, none⟩) (Nat.le_refl _) _, (hrow.set k _).congr fun i _ => rows_step N k i⟩
      case measure => simp [intOf]; omega
    · obtain rfl : k = n := by omega
      go_wp2
      go_ret
      refine ⟨rfl, hbe, fun i hi => ⟨w.heap.size, 0, rfl, hrow.lt, ?_, ?_⟩⟩
      · rw [Nat.zero_add, hrow.cell hi]; simp [rows, hi]
      · obtain ⟨_, _, _, _, _, h⟩ := hN i hi; exact h

theorem clone9_nil (w : World) : Calls Try.prog 9 #[.slice none 0 0] w fun e w' => e = .returned (.slice none 0 0) ∧ w = w' := by
  have hnil := nil22 none 0 0
  go_enter Try.func9, Try.ntmps9
  go_wp2
  go_ret
  exact ⟨rfl, rfl⟩

/-- cloneStrings: the same texts, in new memory. -/
theorem clone9 (a : Option Addr) (n c : Nat) (N : Nat → ByteArray) (w : World) (hn : n ≤ 1048576) (hN : Ns w a n N) (ha : a = none → n = 0 ∧ c = 0) :
    Calls Try.prog 9 #[.slice a n c] w fun e w' => ∃ a' c', e = .returned (.slice a' n c') ∧ Below w.heap.size w w' ∧ Ns w' a' n N := by
  cases a with
  | none =>
    obtain ⟨rfl, rfl⟩ := ha rfl
    exact (clone9_nil w).mono fun e w' ⟨he, hw⟩ => ⟨none, 0, he, hw ▸ Below.refl _ _, fun i hi => absurd hi (Nat.not_lt_zero _)⟩
  | some ad => exact (clone9_some ad n c N w hn hN).mono fun e w' ⟨he, hb, h⟩ => ⟨_, _, he, hb, h⟩

/-- What the names take. -/
def sumN (N : Nat → ByteArray) : Nat → Nat
  | 0 => 0
  | k + 1 => sumN N k + (16 + (N k).size)
theorem sumN_succ (N : Nat → ByteArray) (k : Nat) : sumN N (k + 1) = sumN N k + (16 + (N k).size) := rfl
theorem sumN_ge (N : Nat → ByteArray) (k : Nat) : 16 * k ≤ sumN N k := by
  induction k with
  | zero => simp [sumN]
  | succ k ih => rw [sumN_succ]; omega

/-- It answers some bool; where it is true, p. -/
def ABool (e : Ending) (p : Prop) : Prop := ∃ r : Bool, e = .returned (.bool r) ∧ (r = true → p)

/-- All fits. -/
def Fits (a b c : ByteArray) (n : Nat) (N : Nat → ByteArray) : Prop := a.size + b.size + c.size + sumN N n ≤ 1048576

set_option maxHeartbeats 1000000 in
theorem fits8 (sa sb sc : ByteArray) (a : Option Addr) (n c : Nat) (N : Nat → ByteArray) (w : World) (hn : n ≤ maxLen) (h0 : sa.size ≤ maxLen) (h1 : sb.size ≤ maxLen) (h2 : sc.size ≤ maxLen) (hN : Ns w a n N) :
    Calls Try.prog 8 #[.string sa, .string sb, .string sc, .slice a n c] w fun e w' => ABool e (Fits sa sb sc n N) ∧ w = w' := by
  unfold maxLen at hn h0 h1 h2
  by_cases q0 : (1048576 : Int) < (sa.size : Int)
  · go_enter Try.func8, Try.ntmps8
    go_wp2
    go_ret
    exact ⟨⟨false, rfl, by simp⟩, rfl⟩
  by_cases q1 : (1048576 : Int) - (sa.size : Int) < (sb.size : Int)
  · go_enter Try.func8, Try.ntmps8
    go_wp2
    go_ret
    exact ⟨⟨false, rfl, by simp⟩, rfl⟩
  by_cases q2 : (1048576 : Int) - (sa.size : Int) - (sb.size : Int) < (sc.size : Int)
  · go_enter Try.func8, Try.ntmps8
    go_wp2
    go_ret
    exact ⟨⟨false, rfl, by simp⟩, rfl⟩
  have p0 : decide ((1048576 : Int) < (sa.size : Int)) = false := decide_eq_false q0
  have p1 : decide ((1048576 : Int) - (sa.size : Int) < (sb.size : Int)) = false := decide_eq_false q1
  have p2 : decide ((1048576 : Int) - (sa.size : Int) - (sb.size : Int) < (sc.size : Int)) = false := decide_eq_false q2
  go_enter Try.func8, Try.ntmps8
  go_wp2
  go_loop [9, 10] (fun r i => ∃ k : Nat, k ≤ n ∧ i = .int .i64 k ∧ sa.size + sb.size + sc.size + sumN N k ≤ 1048576 ∧ r = .int .i64 (1048576 - (sa.size : Int) - (sb.size : Int) - (sc.size : Int) - (sumN N k : Int))) (fun _ i => n - (intOf i).toNat)
  case atStart => exact ⟨0, Nat.zero_le _, rfl, by simp [sumN]; omega, by simp [sumN]⟩
  case round =>
    obtain ⟨k, hk, rfl, hle, rfl⟩ := hrel
    by_cases hlt : k < n
    · obtain ⟨b, off, rfl, hb, c0, l0⟩ := hN k hlt
      unfold maxLen at l0
      have HS : Hid (sumN N (k + 1) = sumN N k + (16 + (N k).size)) := sumN_succ N k
      have i1 : (k : Int) < (n : Int) := by omega
      go_wp2
      all_goals first
        | (go_ret; exact ⟨⟨false, rfl, by simp⟩, rfl⟩)
        | (go_round
           case rel => exact ⟨k + 1, by omega, by go_num, by rw [HS.out]; omega, by rw [HS.out]; go_num⟩
           case measure => simp [intOf]; omega)
    · obtain rfl : k = n := by omega
      go_wp2
      go_ret
      exact ⟨⟨true, rfl, by intro _; first | trivial | exact hle⟩, rfl⟩

set_option maxHeartbeats 2000000 in
theorem bytes7 (sa sb : ByteArray) (x y z : Int) (a : Option Addr) (n c : Nat) (p q : Bool) (N : Nat → ByteArray) (w : World) (hn : n ≤ maxLen) (h0 : sa.size ≤ maxLen) (h1 : sb.size ≤ maxLen) (hN : Ns w a n N) :
    Calls Try.prog 7 #[.string sa, .string sb, .int .i64 x, .int .i64 y, .int .i64 z, .slice a n c, .bool p, .bool q] w fun e w' => ABool e True ∧ w = w' := by
  unfold maxLen at hn h0 h1
  by_cases q0 : (1048576 : Int) < (sa.size : Int)
  · go_enter Try.func7, Try.ntmps7
    go_wp2
    go_ret
    exact ⟨⟨false, rfl, by simp⟩, rfl⟩
  by_cases q1 : (1048576 : Int) < (sb.size : Int)
  · go_enter Try.func7, Try.ntmps7
    go_wp2
    go_ret
    exact ⟨⟨false, rfl, by simp⟩, rfl⟩
  by_cases q2 : (1048576 : Int) < (sa.size : Int) + (sb.size : Int)
  · go_enter Try.func7, Try.ntmps7
    go_wp2
    go_ret
    exact ⟨⟨false, rfl, by simp⟩, rfl⟩
  by_cases q3 : (1048576 : Int) < (n : Int)
  · go_enter Try.func7, Try.ntmps7
    go_wp2
    go_ret
    exact ⟨⟨false, rfl, by simp⟩, rfl⟩
  by_cases q4 : (1048576 : Int) < (sa.size : Int) + (sb.size : Int) + (n : Int)
  · go_enter Try.func7, Try.ntmps7
    go_wp2
    go_ret
    exact ⟨⟨false, rfl, by simp⟩, rfl⟩
  have p0 : decide ((1048576 : Int) < (sa.size : Int)) = false := decide_eq_false q0
  have p1 : decide ((1048576 : Int) < (sb.size : Int)) = false := decide_eq_false q1
  have p2 : decide ((1048576 : Int) < (sa.size : Int) + (sb.size : Int)) = false := decide_eq_false q2
  have p3 : decide ((1048576 : Int) < (n : Int)) = false := decide_eq_false q3
  have p4 : decide ((1048576 : Int) < (sa.size : Int) + (sb.size : Int) + (n : Int)) = false := decide_eq_false q4
  go_enter Try.func7, Try.ntmps7
  go_wp2
  go_loop [17, 18] (fun t i => ∃ k : Nat, ∃ v : Int, k ≤ n ∧ i = .int .i64 k ∧ t = .int .i64 v ∧ 0 ≤ v ∧ v ≤ 1048576) (fun _ i => n - (intOf i).toNat)
  case atStart => exact ⟨0, _, Nat.zero_le _, rfl, rfl, by omega, by omega⟩
  case round =>
    obtain ⟨k, v, hk, rfl, rfl, hv0, hv1⟩ := hrel
    by_cases hlt : k < n
    · obtain ⟨b, off, rfl, hb, c0, l0⟩ := hN k hlt
      unfold maxLen at l0
      have i1 : (k : Int) < (n : Int) := by omega
      go_wp2
      all_goals first
        | (go_ret; exact ⟨⟨false, rfl, by simp⟩, rfl⟩)
        | (go_round
           case rel => exact ⟨k + 1, _, by omega, by go_num, rfl, by omega, by omega⟩
           case measure => simp [intOf]; omega)
    · go_wp2
      go_ret
      exact ⟨⟨true, rfl, by intro _; trivial⟩, rfl⟩

/-- A field as ZZnewField builds it. -/
def fieldV (nm : ByteArray) (lo hi last : Int) (names : Value) (day noWrap : Bool) : Value := .agg #[.string nm, .int .i64 lo, .int .i64 hi, .int .i64 last, names, .bool day, .nilFunc, .bool noWrap]

theorem field10 (nm : ByteArray) (lo hi last : Int) (a : Option Addr) (n c : Nat) (day noWrap : Bool) (w : World) :
    Calls Try.prog 10 #[.string nm, .int .i64 lo, .int .i64 hi, .int .i64 last, .slice a n c, .bool day, .bool noWrap] w fun e w' => e = .returned (fieldV nm lo hi last (.slice a n c) day noWrap) ∧ Below w.heap.size w w' := by
  go_enter Try.func10, Try.ntmps10
  go_wp2
  refine bodyPost_ret (v := fieldV nm lo hi last (.slice a n c) day noWrap) ?_ rfl ⟨rfl, ?_⟩
  · simp [results, Try.results10, go_sem, fieldV]
  · exact (Below.refl _ _).alloc (Nat.le_refl _) _

end Go.Proofs.Qxb6616116a
