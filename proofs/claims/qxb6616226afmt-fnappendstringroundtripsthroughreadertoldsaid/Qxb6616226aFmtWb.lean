/-
  WALKS: zzFirstUvarint (13).
-/
import Derived.Test.Qxb6616226aFmtWa
namespace Go.Proofs.Qxb6616226aFmt
open Go.RowKit

theorem pow_ge (m : Nat) : 128 ≤ 128 ^ (m + 1) := by
  rw [Nat.pow_succ]
  have := Nat.pow_pos (n := m) (show 0 < 128 by decide)
  omega

theorem fit_step {m v T p : Nat} (h : p + 128 ^ (m + 1) * v = T) (hT : T < 18446744073709551616) : v * 128 < 18446744073709551616 := by
  have h1 := Nat.mul_le_mul_right v (pow_ge m)
  omega

theorem or7 (v b : Nat) (hv : v * 128 < 18446744073709551616) (hb : b < 128) : bits .or .u64 ((v : Int) * 128) (b : Int) = (v : Int) * 128 + (b : Int) :=
  bits_join .u64 64 (by decide) wraps_u64 7 _ _ (by omega) (by omega) (by omega) (by omega) (by omega) (by omega)

/-- What zzFirstUvarint answers. -/
def firstV (l : List UInt8) : Value := if 0 < (Lib.uvarintDec l).2 then .tuple #[.int .u64 (Lib.uvarintDec l).1, .int .i64 (Lib.uvarintDec l).2, .bool true] else .tuple #[.int .u64 0, .int .i64 0, .bool false]

theorem firstV_none {l : List UInt8} (h : (Lib.uvarintDec l).2 ≤ 0) : firstV l = .tuple #[.int .u64 0, .int .i64 0, .bool false] := by
  unfold firstV; rw [if_neg (by omega)]

theorem firstV_some {l : List UInt8} {v k : Nat} (h : Lib.uvarintDec l = (v, (k : Int))) (hk : 0 < k) : firstV l = .tuple #[.int .u64 v, .int .i64 k, .bool true] := by
  unfold firstV; rw [h, if_pos (by show (0 : Int) < (k : Int); omega)]

set_option maxHeartbeats 4000000 in
set_option maxRecDepth 20000 in
theorem first13 (a : Option Addr) (n c : Nat) (l : List UInt8) (w : World) (hn : n ≤ 4194304) (hl : l.length = n) (hB : Bs w a l) :
    Calls Tryf.prog 13 #[.slice a n c] w fun e w' => e = .returned (firstV l) ∧ w = w' := by
  go_enter Tryf.func13, Tryf.ntmps13
  go_wp2
  go_loop [5, 6] (fun vk vi => ∃ i : Nat, i ≤ n ∧ i ≤ 10 ∧ vk = .int .i64 0 ∧ vi = .int .i64 i ∧ ∀ j (hj : j < l.length), j < i → 128 ≤ l[j].toNat) (fun _ vi => n - (intOf vi).toNat)
  case atStart => exact ⟨0, by omega, by omega, rfl, rfl, fun j _ h => absurd h (Nat.not_lt_zero _)⟩
  case round =>
    obtain ⟨i, hi, hi10, rfl, rfl, hpre⟩ := hrel
    have HP : Hid (∀ j (hj : j < l.length), j < i → 128 ≤ l[j].toNat) := hpre
    clear hpre
    by_cases hlt : i < n
    · have j1 : (i : Int) < (n : Int) := by omega
      by_cases h10 : i < 10
      · have j2 : (i : Int) < 10 := by omega
        obtain ⟨b, off, rfl, hb, hc⟩ := hB.some (by omega)
        have hil : i < l.length := by omega
        have c0 := hc i hil
        have hb256 : l[i].toNat < 256 := l[i].toNat_lt
        by_cases hlow : l[i].toNat < 128
        · have k1 : ((l[i].toNat : Nat) : Int) < 128 := by omega
          by_cases hover : i = 9 ∧ 1 < l[i].toNat
          · have hd := dec_over l i hil HP.out hlow hover
            have HD : Hid ((Lib.uvarintDec l).2 ≤ 0) := hd.2
            clear hd
            obtain ⟨rfl, hov⟩ := hover
            have k2 : (1 : Int) < ((l[9].toNat : Nat) : Int) := by omega
            go_wp2
            go_ret3
            exact ⟨by rw [firstV_none HD.out]; rfl, rfl⟩
          · have hd := dec_end l i hil h10 HP.out hlow hover
            have HD : Hid (Lib.uvarintDec l = (val (l.take (i + 1)), ((i + 1 : Nat) : Int))) := hd
            have hT := Lib.uvarintDec_lt l
            rw [hd] at hT
            clear hd
            generalize hTT : val (l.take (i + 1)) = T at *
            have HT : Hid (val (l.take (i + 1)) = T) := hTT
            clear hTT
            have hT : T < 18446744073709551616 := hT
            have m0 : ((i : Int) + 1 == 0) = false := beq_false_of_ne (by omega)
            by_cases h9 : i = 9
            · subst h9
              have k2 : ¬ (1 : Int) < ((l[9].toNat : Nat) : Int) := by omega
              have k3 : decide ((1 : Int) < ((l[9].toNat : Nat) : Int)) = false := decide_eq_false k2
              go_wp2
              go_loop [7, 8] (fun vv vi => ∃ m v : Nat, m ≤ 9 + 1 ∧ vi = .int .i64 ((m : Int) - 1) ∧ vv = .int .u64 v ∧ val (l.take m) + 128 ^ m * v = T) (fun _ vi => (intOf vi + 1).toNat)
              case atStart => exact ⟨9 + 1, 0, Nat.le_refl _, by go_num, rfl, by rw [Nat.mul_zero]; exact HT.out⟩
              case round =>
                obtain ⟨m, v, hm, rfl, rfl, hval⟩ := hrel
                have HV : Hid (val (l.take m) + 128 ^ m * v = T) := hval
                clear hval
                rcases Nat.eq_zero_or_pos m with rfl | hpos
                · go_wp2
                  go_ret3
                  refine ⟨?_, rfl⟩
                  have h1 := HV.out
                  simp [val] at h1
                  rw [firstV_some HD.out (by omega), h1]
                  rfl
                · obtain ⟨m, rfl⟩ : ∃ m', m = m' + 1 := ⟨m - 1, by omega⟩
                  have hml : m < l.length := by omega
                  have c1 := hc m hml
                  have hstep := val_snoc hml
                  have hfit := fit_step HV.out hT
                  have hbm : l[m].toNat < 256 := l[m].toNat_lt
                  have hv : bits .or .u64 ((v : Int) * 128) (IntKind.u64.wrap (bits .and .u8 ((l[m].toNat : Nat) : Int) 127)) = ((v * 128 + l[m].toNat % 128 : Nat) : Int) := by
                    rw [u8_and127 _ (by omega) (by omega), u64_wrap_id _ (by omega) (by omega)]
                    have h2 := or7 v (l[m].toNat % 128) hfit (by omega)
                    rw [show (((l[m].toNat : Nat) : Int) % 128) = ((l[m].toNat % 128 : Nat) : Int) by omega, h2]
                    omega
                  have HS : Hid (val (l.take (m + 1)) = val (l.take m) + 128 ^ m * (l[m].toNat % 128)) := hstep
                  have i5 : (m : Int) + 1 - 1 = (m : Int) := by omega
                  have i6 : (m : Int) < (n : Int) := by omega
                  clear hstep
                  go_wp2
                  go_round
                  case rel => exact ⟨m, v * 128 + l[m].toNat % 128, by omega, by go_num, by first | rfl | go_num, by rw [← HV.out, HS.out, Nat.pow_succ, Nat.mul_add, Nat.mul_assoc, Nat.mul_comm 128 v]; omega⟩
                  case measure => simp [intOf]
            · have m1 : ((i : Int) + 1 == 10) = false := beq_false_of_ne (by omega)
              go_wp2
              go_loop [7, 8] (fun vv vi => ∃ m v : Nat, m ≤ i + 1 ∧ vi = .int .i64 ((m : Int) - 1) ∧ vv = .int .u64 v ∧ val (l.take m) + 128 ^ m * v = T) (fun _ vi => (intOf vi + 1).toNat)
              case atStart => exact ⟨i + 1, 0, Nat.le_refl _, by go_num, rfl, by rw [Nat.mul_zero]; exact HT.out⟩
              case round =>
                obtain ⟨m, v, hm, rfl, rfl, hval⟩ := hrel
                have HV : Hid (val (l.take m) + 128 ^ m * v = T) := hval
                clear hval
                rcases Nat.eq_zero_or_pos m with rfl | hpos
                · go_wp2
                  go_ret3
                  refine ⟨?_, rfl⟩
                  have h1 := HV.out
                  simp [val] at h1
                  rw [firstV_some HD.out (by omega), h1]
                  rfl
                · obtain ⟨m, rfl⟩ : ∃ m', m = m' + 1 := ⟨m - 1, by omega⟩
                  have hml : m < l.length := by omega
                  have c1 := hc m hml
                  have hstep := val_snoc hml
                  have hfit := fit_step HV.out hT
                  have hbm : l[m].toNat < 256 := l[m].toNat_lt
                  have hv : bits .or .u64 ((v : Int) * 128) (IntKind.u64.wrap (bits .and .u8 ((l[m].toNat : Nat) : Int) 127)) = ((v * 128 + l[m].toNat % 128 : Nat) : Int) := by
                    rw [u8_and127 _ (by omega) (by omega), u64_wrap_id _ (by omega) (by omega)]
                    have h2 := or7 v (l[m].toNat % 128) hfit (by omega)
                    rw [show (((l[m].toNat : Nat) : Int) % 128) = ((l[m].toNat % 128 : Nat) : Int) by omega, h2]
                    omega
                  have HS : Hid (val (l.take (m + 1)) = val (l.take m) + 128 ^ m * (l[m].toNat % 128)) := hstep
                  have i5 : (m : Int) + 1 - 1 = (m : Int) := by omega
                  have i6 : (m : Int) < (n : Int) := by omega
                  clear hstep
                  go_wp2
                  go_round
                  case rel => exact ⟨m, v * 128 + l[m].toNat % 128, by omega, by go_num, by first | rfl | go_num, by rw [← HV.out, HS.out, Nat.pow_succ, Nat.mul_add, Nat.mul_assoc, Nat.mul_comm 128 v]; omega⟩
                  case measure => simp [intOf]
        · have k1 : ¬ ((l[i].toNat : Nat) : Int) < 128 := by omega
          go_wp2
          go_round
          case rel => exact ⟨i + 1, by omega, by omega, rfl, by go_num, fun j hj h => by rcases Nat.lt_succ_iff_lt_or_eq.1 h with h | rfl; exact HP.out j hj h; omega⟩
          case measure => simp [intOf]; omega
      · obtain rfl : i = 10 := by omega
        have hd := dec_none l 10 (by omega) (by omega) (.inr (by omega)) HP.out
        have HD : Hid ((Lib.uvarintDec l).2 ≤ 0) := hd.2
        clear hd
        go_wp2
        go_ret3
        exact ⟨by rw [firstV_none HD.out]; rfl, rfl⟩
    · have j1 : ¬ (i : Int) < (n : Int) := by omega
      have hd := dec_none l i (by omega) (by omega) (.inl (by omega)) HP.out
      have HD : Hid ((Lib.uvarintDec l).2 ≤ 0) := hd.2
      clear hd
      go_wp2
      go_ret3
      exact ⟨by rw [firstV_none HD.out]; rfl, rfl⟩

end Go.Proofs.Qxb6616226aFmt
