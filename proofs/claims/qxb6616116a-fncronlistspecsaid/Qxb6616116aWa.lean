/-
  WALKS: isDigit (31), foldsTo (47), nameIndex (22), allDigits (25), number (40).
-/
import Derived.Test.Qxb6616116aRows
import Derived.Test.Qxb6616116aPlain
import Derived.WalkKit
import Derived.WalkSpells
import Derived.WalkLawsBesides
import Derived.Deep.OwnRows
namespace Go.Proofs.Qxb6616116a
open Go.RowKit

theorem isDigit31 (c : UInt8) (w : World) : Calls Try.prog 31 #[.int .u8 c.toNat] w fun e w' => e = .returned (.bool (isD c)) ∧ w = w' := by
  by_cases h1 : (48 : Int) ≤ (c.toNat : Int)
  · by_cases h2 : (c.toNat : Int) ≤ 57
    · have hd : isD c = true := by simp [isD]; omega
      rw [hd]
      go_enter Try.func31, Try.ntmps31
      go_wp2
      go_ret
      exact ⟨rfl, rfl⟩
    · have hd : isD c = false := by simp [isD]; omega
      rw [hd]
      go_enter Try.func31, Try.ntmps31
      go_wp2
      go_ret
      exact ⟨by simp, rfl⟩
  · have hd : isD c = false := by simp [isD]; omega
    rw [hd]
    go_enter Try.func31, Try.ntmps31
    go_wp2
    go_ret
    exact ⟨rfl, rfl⟩

theorem ret_bool {a b : Bool} (h : a = b) : Ending.returned (.bool a) = .returned (.bool b) := by rw [h]
theorem ret_int {k : IntKind} {a b : Int} (h : a = b) : Ending.returned (.int k a) = .returned (.int k b) := by rw [h]

set_option maxHeartbeats 1000000 in
theorem folds47 (t l : ByteArray) (w : World) (ht : t.size ≤ maxLen) : Calls Try.prog 47 #[.string t, .string l] w fun e w' => e = .returned (.bool (foldsB t l)) ∧ w = w' := by
  unfold maxLen at ht
  by_cases hsz : t.size = l.size
  · have hb : ((t.size : Int) != (l.size : Int)) = false := by simp [hsz]
    have HZ : Hid (t.size = l.size) := hsz
    clear hsz
    go_enter Try.func47, Try.ntmps47
    go_wp2
    go_loop [5] (fun i => ∃ k : Nat, k ≤ t.size ∧ i = .int .i64 k ∧ (t.data.toList.take k).map lo = l.data.toList.take k) (fun i => t.size - (intOf i).toNat)
    case atStart => exact ⟨0, Nat.zero_le _, rfl, rfl⟩
    case round =>
      clear hb
      obtain ⟨k, hk, rfl, hpre⟩ := hrel
      have HP : Hid ((t.data.toList.take k).map lo = l.data.toList.take k) := hpre
      clear hpre
      by_cases hlt : k < t.size
      · have hlt2 : k < l.size := by have := HZ.out; omega
        go_wp2
        all_goals first
          | (go_ret
             have hb := ‹((_ : Int) != _) = true›
             rw [bne_iff_ne] at hb
             exact ⟨ret_bool (folds_no t l hlt hlt2 (lo_ne (by split <;> omega))).symm, rfl⟩)
          | (go_round
             case rel =>
               have hb := ‹((_ : Int) != _) = false›
               rw [bne_eq_false_iff_eq] at hb
               exact ⟨k + 1, by omega, by go_num, folds_step HP.out hlt hlt2 (lo_eq (by split <;> omega))⟩
             case measure => simp [intOf]; omega)
      · obtain rfl : k = t.size := by omega
        go_wp2
        go_ret
        exact ⟨ret_bool (folds_yes HP.out HZ.out).symm, rfl⟩
  · have hb : ((t.size : Int) != (l.size : Int)) = true := by simp; omega
    rw [folds_len t l hsz]
    go_enter Try.func47, Try.ntmps47
    go_wp2
    go_ret
    exact ⟨rfl, rfl⟩

theorem ret_num {a a' : Int} {b b' : Bool} (h : a = a') (h2 : b = b') : Ending.returned (.tuple #[.int .i64 a, .bool b]) = .returned (.tuple #[.int .i64 a', .bool b']) := by rw [h, h2]

/-- The n texts N lie in w from address a on. -/
def Ns (w : World) (a : Option Addr) (n : Nat) (N : Nat → ByteArray) : Prop :=
  ∀ i, i < n → ∃ b off, a = some ⟨b, off, none⟩ ∧ b < w.heap.size ∧ w.cell? ⟨b, off + i, none⟩ = some (.string (N i)) ∧ (N i).size ≤ maxLen

theorem Ns.below {w w' : World} {a : Option Addr} {n : Nat} {N : Nat → ByteArray} (h : Ns w a n N) (hb : Below w.heap.size w w') : Ns w' a n N := by
  intro i hi
  obtain ⟨b, off, rfl, hlt, c0, r⟩ := h i hi
  exact ⟨b, off, rfl, Nat.lt_of_lt_of_le hlt hb.size, by rw [hb.cell (p := ⟨b, off + i, none⟩) hlt]; exact c0, r⟩

theorem str_ne {a b : ByteArray} (h : a ≠ b) : (a.toList == b.toList) = false := by
  rw [ByteArray.toList_eq, ByteArray.toList_eq]
  simp
  intro e
  exact h (bytes_ext (by rw [e]))

/-- The place of a text among the names, or -1. -/
def idxOf (N : Nat → ByteArray) (n : Nat) (s : ByteArray) : Int := match ff (fun i => decide (N i = s)) n with
  | some i => i
  | none => -1

set_option maxHeartbeats 1000000 in
theorem index22 (s : ByteArray) (a : Option Addr) (n c : Nat) (N : Nat → ByteArray) (w : World) (hn : n ≤ maxLen) (hN : Ns w a n N) : Calls Try.prog 22 #[.string s, .slice a n c] w fun e w' => e = .returned (.int .i64 (idxOf N n s)) ∧ w = w' := by
  unfold maxLen at hn
  go_enter Try.func22, Try.ntmps22
  go_wp2
  go_loop [5] (fun i => ∃ k : Nat, k ≤ n ∧ i = .int .i64 k ∧ ∀ j, j < k → decide (N j = s) = false) (fun i => n - (intOf i).toNat)
  case atStart => exact ⟨0, Nat.zero_le _, rfl, fun j hj => absurd hj (Nat.not_lt_zero _)⟩
  case round =>
    obtain ⟨k, hk, rfl, hpre⟩ := hrel
    have HP : Hid (∀ j, j < k → decide (N j = s) = false) := hpre
    clear hpre
    by_cases hlt : k < n
    · obtain ⟨b, off, rfl, hb, c0, _⟩ := hN k hlt
      have i1 : (k : Int) < (n : Int) := by omega
      by_cases he : N k = s
      · have hq : ((N k).toList == s.toList) = true := by simp [he]
        have hx : idxOf N n s = (k : Int) := by unfold idxOf; rw [ff_hit hlt (by simpa using he) HP.out]
        have HX : Hid (idxOf N n s = (k : Int)) := hx
        clear hx he
        go_wp2
        go_ret
        exact ⟨ret_int HX.out.symm, rfl⟩
      · have hq : ((N k).toList == s.toList) = false := str_ne he
        go_wp2
        go_round
        case rel => exact ⟨k + 1, by omega, by go_num, fun j hj => by rcases Nat.lt_succ_iff_lt_or_eq.1 hj with h | rfl; exact HP.out j h; simpa using he⟩
        case measure => simp [intOf]; omega
    · obtain rfl : k = n := by omega
      have HX : Hid (idxOf N k s = -1) := by show _ = _; unfold idxOf; rw [ff_none HP.out]
      go_wp2
      go_ret
      exact ⟨ret_int HX.out.symm, rfl⟩

set_option maxHeartbeats 1000000 in
theorem digits25 (s : ByteArray) (w : World) (hs : s.size ≤ maxLen) : Calls Try.prog 25 #[.string s] w fun e w' => e = .returned (.bool (numB s.data.toList)) ∧ w = w' := by
  unfold maxLen at hs
  by_cases h0 : s.size = 0
  · have hb : ((s.size : Int) == 0) = true := by simp [h0]
    have HX : Hid (numB s.data.toList = false) := numB_empty h0
    clear h0
    go_enter Try.func25, Try.ntmps25
    go_wp2
    go_ret
    exact ⟨ret_bool HX.out.symm, rfl⟩
  · have hb : ((s.size : Int) == 0) = false := beq_eq_false_iff_ne.2 (by omega)
    go_enter Try.func25, Try.ntmps25
    go_wp2
    go_loop [3] (fun i => ∃ k : Nat, k ≤ s.size ∧ i = .int .i64 k ∧ (s.data.toList.take k).all isD = true) (fun i => s.size - (intOf i).toNat)
    case atStart => exact ⟨0, Nat.zero_le _, rfl, rfl⟩
    case round =>
      obtain ⟨k, hk, rfl, hpre⟩ := hrel
      have HP : Hid ((s.data.toList.take k).all isD = true) := hpre
      clear hpre
      by_cases hlt : k < s.size
      · cases hd : isD s[k] with
        | true =>
          go_wp2_with (go_at_call 31; refine (isDigit31 s[k] _).mono ?_; rintro e w' ⟨rfl, rfl⟩; rw [hd])
          go_round
          case rel => exact ⟨k + 1, by omega, by go_num, by rw [take_snoc s k hlt, all_snoc, HP.out, hd]; rfl⟩
          case measure => simp [intOf]; omega
        | false =>
          go_wp2_with (go_at_call 31; refine (isDigit31 s[k] _).mono ?_; rintro e w' ⟨rfl, rfl⟩; rw [hd])
          go_ret
          exact ⟨ret_bool (numB_no hlt hd).symm, rfl⟩
      · obtain rfl : k = s.size := by omega
        go_wp2
        go_ret
        exact ⟨ret_bool (numB_yes h0 HP.out).symm, rfl⟩

set_option maxHeartbeats 1000000 in
theorem number40 (s : ByteArray) (w : World) (hs : s.size ≤ maxLen) : Calls Try.prog 40 #[.string s] w fun e w' => e = .returned (.tuple #[.int .i64 (numV s.data.toList : Nat), .bool (numB s.data.toList)]) ∧ w = w' := by
  unfold maxLen at hs
  by_cases h0 : s.size = 0
  · have hb : s.toList.isEmpty = true := by rw [ByteArray.toList_eq, nil_of_size h0]; rfl
    have HX : Hid (numB s.data.toList = false) := numB_empty h0
    clear h0
    go_enter Try.func40, Try.ntmps40
    go_wp2
    go_ret2
    exact ⟨ret_num (a := 0) (by rw [numV_no HX.out]; rfl) HX.out.symm, rfl⟩
  · have hb : s.toList.isEmpty = false := by rw [ByteArray.toList_eq]; exact nonempty_of_size h0
    go_enter Try.func40, Try.ntmps40
    go_wp2
    go_loop [4, 5] (fun t i => ∃ k : Nat, k ≤ s.size ∧ i = .int .i64 k ∧ t = .int .i64 (satVal (s.data.toList.take k) : Nat) ∧ (s.data.toList.take k).all isD = true) (fun _ i => s.size - (intOf i).toNat)
    case atStart => exact ⟨0, Nat.zero_le _, rfl, rfl, rfl⟩
    case round =>
      obtain ⟨k, hk, rfl, rfl, hpre⟩ := hrel
      have HP : Hid ((s.data.toList.take k).all isD = true) := hpre
      have hv := satVal_le (s.data.toList.take k)
      clear hpre
      by_cases hlt : k < s.size
      · cases hd : isD s[k] with
        | true =>
          have hd1 : (48 : Int) ≤ (s[k].toNat : Int) := by have h := hd; simp [isD] at h; omega
          have hd2 : (s[k].toNat : Int) ≤ 57 := by have h := hd; simp [isD] at h; omega
          have HD : Hid (isD s[k] = true) := hd
          clear hd
          go_wp2
          go_round
          case rel => exact ⟨k + 1, by omega, by go_num, by rw [take_snoc s k hlt, ← sat_step _ _ (by omega)], by rw [take_snoc s k hlt, all_snoc, HP.out, HD.out]; rfl⟩
          case measure => simp [intOf]; omega
        | false =>
          have HX : Hid (numB s.data.toList = false) := numB_no hlt hd
          have hno : ¬ (48 ≤ (s[k].toNat : Int) ∧ (s[k].toNat : Int) ≤ 57) := by have h := hd; simp [isD] at h; omega
          clear hd
          by_cases hd1 : (48 : Int) ≤ (s[k].toNat : Int)
          · have hd2 : (57 : Int) < (s[k].toNat : Int) := by omega
            clear hno
            go_wp2
            go_ret2
            exact ⟨ret_num (a := 0) (by rw [numV_no HX.out]; rfl) HX.out.symm, rfl⟩
          · clear hno
            go_wp2
            go_ret2
            exact ⟨ret_num (a := 0) (by rw [numV_no HX.out]; rfl) HX.out.symm, rfl⟩
      · obtain rfl : k = s.size := by omega
        have HX : Hid (numB s.data.toList = true) := numB_yes h0 HP.out
        have HY : Hid (s.data.toList.take s.size = s.data.toList) := List.take_of_length_le (by simp)
        go_wp2
        go_ret2
        exact ⟨ret_num (by rw [numV_yes HX.out, HY.out]) HX.out.symm, rfl⟩

end Go.Proofs.Qxb6616116a
