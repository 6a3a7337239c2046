/-
  WALKS: zzBytes_.. (5, 11), refusalSize (12), zzRefusalSize (13), List (9).
-/
import Derived.Test.Qxb6616102aRows
import Derived.Test.Qxb6616102aPlain
import Derived.WalkKit
import Derived.WalkSpells
import Derived.WalkLawsBesides
namespace Go.Proofs.Qxb6616102a
open Go.RowKit

/-- The causes X lie in w: n of them, from address a on (three cells each). -/
def Lies (w : World) (a : Option Addr) (n : Nat) (X : Nat → Cz) : Prop :=
  ∀ i, i < n → ∃ b off, a = some ⟨b, off, none⟩ ∧ b < w.heap.size ∧ w.cell? ⟨b, off + i * 3, none⟩ = some (.string (X i).t) ∧ w.cell? ⟨b, off + i * 3 + 1, none⟩ = some (.string (X i).m) ∧ w.cell? ⟨b, off + i * 3 + 2, none⟩ = some (.string (X i).f) ∧
    (X i).t.size ≤ maxLen ∧ (X i).m.size ≤ maxLen ∧ (X i).f.size ≤ maxLen

/-- It answers some bool; where it is true, p. -/
def ABool (e : Ending) (p : Prop) : Prop := ∃ r : Bool, e = .returned (.bool r) ∧ (r = true → p)

/-- The first k causes' texts are short. -/
def Small (X : Nat → Cz) (k : Nat) : Prop := ∀ i, i < k → (X i).t.size ≤ 1048576 ∧ (X i).m.size ≤ 1048576 ∧ (X i).f.size ≤ 1048576

theorem Small.step {X : Nat → Cz} {k : Nat} (h : Small X k) (h0 : (X k).t.size ≤ 1048576) (h1 : (X k).m.size ≤ 1048576) (h2 : (X k).f.size ≤ 1048576) : Small X (k + 1) := fun i hi => by
  rcases Nat.lt_succ_iff_lt_or_eq.1 hi with hlt | rfl
  · exact h i hlt
  · exact ⟨h0, h1, h2⟩

set_option maxHeartbeats 1000000 in
theorem bytes5 (a : Option Addr) (n c : Nat) (X : Nat → Cz) (w : World) (hn : n ≤ maxLen) (hX : Lies w a n X) :
    Calls Try.prog 5 #[.slice a n c] w fun e w' => ABool e (Small X n) ∧ w = w' := by
  unfold maxLen at hn
  by_cases hbig : (1048576 : Int) < (n : Int)
  · go_enter Try.func5, Try.ntmps5
    go_wp2
    go_ret; exact ⟨⟨false, rfl, by simp⟩, rfl⟩
  · have hd : decide ((1048576 : Int) < (n : Int)) = false := decide_eq_false hbig
    go_enter Try.func5, Try.ntmps5
    go_wp2
    go_loop [3, 4] (fun t i => ∃ k : Nat, ∃ q : Int, k ≤ n ∧ i = .int .i64 k ∧ t = .int .i64 q ∧ 0 ≤ q ∧ q ≤ 1048576 ∧ Small X k) (fun _ i => n - (intOf i).toNat)
    case atStart => exact ⟨0, n, Nat.zero_le _, rfl, rfl, by omega, by omega, fun _ h => absurd h (Nat.not_lt_zero _)⟩
    case round =>
      obtain ⟨k, q, hk, rfl, rfl, hq0, hq1, hsm⟩ := hrel
      by_cases hlt : k < n
      · obtain ⟨b, off, rfl, hb, c0, c1, c2, l0, l1, l2⟩ := hX k hlt
        unfold maxLen at l0 l1 l2
        go_wp2
        all_goals first | (go_ret; exact ⟨⟨false, rfl, by simp⟩, rfl⟩) | skip
        go_round
        case rel => exact ⟨k + 1, _, by omega, by go_num, rfl, by omega, by omega, hsm.step (by omega) (by omega) (by omega)⟩
        case measure => simp [intOf]; omega
      · obtain rfl : k = n := by omega
        go_wp2
        go_ret; exact ⟨⟨true, rfl, by intro _; first | trivial | exact hsm⟩, rfl⟩

set_option maxHeartbeats 1000000 in
theorem bytes11 (a : Option Addr) (n c : Nat) (X : Nat → Cz) (cut : Int) (w : World) (hn : n ≤ maxLen) (hX : Lies w a n X) :
    Calls Try.prog 11 #[.slice a n c, .int .i64 cut] w fun e w' => ABool e (Small X n) ∧ w = w' := by
  unfold maxLen at hn
  by_cases hbig : (1048576 : Int) < (n : Int)
  · go_enter Try.func11, Try.ntmps11
    go_wp2
    go_ret; exact ⟨⟨false, rfl, by simp⟩, rfl⟩
  · have hd : decide ((1048576 : Int) < (n : Int)) = false := decide_eq_false hbig
    go_enter Try.func11, Try.ntmps11
    go_wp2
    go_loop [5, 6] (fun t i => ∃ k : Nat, ∃ q : Int, k ≤ n ∧ i = .int .i64 k ∧ t = .int .i64 q ∧ 0 ≤ q ∧ q ≤ 1048576 ∧ Small X k) (fun _ i => n - (intOf i).toNat)
    case atStart => exact ⟨0, n, Nat.zero_le _, rfl, rfl, by omega, by omega, fun _ h => absurd h (Nat.not_lt_zero _)⟩
    case round =>
      obtain ⟨k, q, hk, rfl, rfl, hq0, hq1, hsm⟩ := hrel
      by_cases hlt : k < n
      · obtain ⟨b, off, rfl, hb, c0, c1, c2, l0, l1, l2⟩ := hX k hlt
        unfold maxLen at l0 l1 l2
        go_wp2
        all_goals first | (go_ret; exact ⟨⟨false, rfl, by simp⟩, rfl⟩) | skip
        go_round
        case rel => exact ⟨k + 1, _, by omega, by go_num, rfl, by omega, by omega, hsm.step (by omega) (by omega) (by omega)⟩
        case measure => simp [intOf]; omega
      · obtain rfl : k = n := by omega
        go_wp2
        go_ret; exact ⟨⟨true, rfl, by intro _; first | trivial | exact hsm⟩, rfl⟩

/-- meta.refusalSize. -/
theorem size12 (x : Cz) (w : World) (h0 : x.t.size ≤ 1048576) (h1 : x.m.size ≤ 1048576) (h2 : x.f.size ≤ 1048576) :
    Calls Try.prog 12 #[.agg #[.string x.t, .string x.m, .string x.f]] w fun e w' => e = .returned (.int .i64 (sz x)) ∧ ∃ c : Array Value, w' = w.alloc (.cells c 37) := by
  have hs : ((sz x : Nat) : Int) = 42 + (x.t.size : Int) + 2 * ((x.f.size : Int) + (x.m.size : Int)) := by unfold sz; omega
  rw [hs]; clear hs
  go_enter Try.func12, Try.ntmps12
  go_wp2
  go_ret
  exact ⟨rfl, _, rfl⟩

/-- The laws' own zzRefusalSize. -/
theorem size13 (x : Cz) (w : World) (h0 : x.t.size ≤ 1048576) (h1 : x.m.size ≤ 1048576) (h2 : x.f.size ≤ 1048576) :
    Calls Try.prog 13 #[.agg #[.string x.t, .string x.m, .string x.f]] w fun e w' => e = .returned (.int .i64 (sz x)) ∧ ∃ c : Array Value, w' = w.alloc (.cells c 25) := by
  have hs : ((sz x : Nat) : Int) = 42 + (x.t.size : Int) + 2 * (x.f.size : Int) + 2 * (x.m.size : Int) := by unfold sz; omega
  rw [hs]; clear hs
  go_enter Try.func13, Try.ntmps13
  go_wp2
  go_ret
  exact ⟨rfl, _, rfl⟩

/-- (Causes).List. -/
theorem list9 (a : Option Addr) (n c : Nat) (x y : Int) (w : World) :
    Calls Try.prog 9 #[.agg #[.slice a n c, .int .i64 x, .int .i64 y]] w fun e w' => e = .returned (.slice a n c) ∧ ∃ c : Array Value, w' = w.alloc (.cells c 29) := by
  go_enter Try.func9, Try.ntmps9
  go_wp2
  go_ret
  exact ⟨rfl, _, rfl⟩

end Go.Proofs.Qxb6616102a
