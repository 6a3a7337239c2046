/-
  WALKS: zzListIs (8).
-/
import Derived.Test.Qxb6616102aWb
import Derived.Deep.QuietTactic
import Derived.BigQuiet
import Derived.WalkSmall
namespace Go.Proofs.Qxb6616102a
open Go.RowKit

set_option maxHeartbeats 1000000 in
theorem listIs8 (ga a : Option Addr) (k gc n c : Nat) (X : Nat → Cz) (w : World) (hkn : k ≤ n) (hn : n ≤ 65536) (hG : Lies w ga k X) (hX : Lies w a n X) :
    Calls Try.prog 8 #[.slice ga k gc, .slice a n c, .int .i64 k] w fun e w' => e = .returned (.bool true) ∧ ∃ q, w' = w.drewN q := by
  go_enter Try.func8, Try.ntmps8
  go_wp2
  go_loopw [7] (fun i wr => ∃ j q : Nat, j ≤ k ∧ i = .int .i64 j ∧ wr = w.drewN q) (fun i _ => k - (intOf i).toNat)
  case atStart => exact ⟨0, 0, Nat.zero_le _, rfl, rfl⟩
  case round =>
    obtain ⟨j, q, hj, rfl, rfl⟩ := hrel
    by_cases hlt : j < k
    · obtain ⟨b, off, rfl, hb, c0, c1, c2, l0, l1, l2⟩ := hX j (by omega)
      obtain ⟨gb, goff, rfl, hgb, g0, g1, g2, _, _, _⟩ := hG j hlt
      have hjn : (j : Int) < (n : Int) := by omega
      have hjk : (j : Int) < (k : Int) := by omega
      go_wp2
      go_quiet (fail)
      go_wp2
      go_roundw
      case rel => exact ⟨j + 1, q + nq, by omega, by go_num, rfl⟩
      case measure => simp [intOf]; omega
    · go_wp2
      go_ret
      exact ⟨rfl, _, rfl⟩

end Go.Proofs.Qxb6616102a
