/-
  WALKS: alnumLength (39), strings.HasPrefix (30, 41), isAlnum (23), isListValue (24).
-/
import Derived.Test.Qxb6616116aWc
import Derived.Test.Qxb6616116aJoin
import Derived.Deep.QuietTactic
import Derived.BigQuiet
import Derived.WalkSmall
import Derived.Lib.Strings
namespace Go.Proofs.Qxb6616116a
open Go.RowKit

/-- What alnumLength asks of a byte. -/
theorem al_iff (c : UInt8) : isAl c = true ↔ ((48 ≤ (c.toNat : Int) ∧ (c.toNat : Int) ≤ 57) ∨ (97 ≤ bits BinOp.or IntKind.u8 (c.toNat : Int) 32 ∧ bits BinOp.or IntKind.u8 (c.toNat : Int) 32 ≤ 122)) :=
  all256 (p := fun c => isAl c = true ↔ ((48 ≤ (c.toNat : Int) ∧ (c.toNat : Int) ≤ 57) ∨ (97 ≤ bits BinOp.or IntKind.u8 (c.toNat : Int) 32 ∧ bits BinOp.or IntKind.u8 (c.toNat : Int) 32 ≤ 122))) (by decide +kernel) c

theorem al_stop {s : ByteArray} {k : Nat} (h : k < s.size) (hc : ¬ isAl s[k] = true) : alLen (s.data.toList.drop k) = 0 := by
  have hl : k < s.data.toList.length := by rw [Array.length_toList]; exact h
  rw [List.drop_eq_getElem_cons hl]
  unfold alLen
  rw [List.takeWhile_cons_of_neg (by exact hc)]
  rfl

theorem al_go {s : ByteArray} {k : Nat} (h : k < s.size) (hc : isAl s[k] = true) : alLen (s.data.toList.drop k) = 1 + alLen (s.data.toList.drop (k + 1)) := by
  have hl : k < s.data.toList.length := by rw [Array.length_toList]; exact h
  rw [List.drop_eq_getElem_cons hl]
  unfold alLen
  rw [List.takeWhile_cons_of_pos (by exact hc), List.length_cons]
  omega

theorem al_end {s : ByteArray} : alLen (s.data.toList.drop s.size) = 0 := by
  have : s.data.toList.drop s.size = [] := by rw [List.drop_eq_nil_iff, Array.length_toList]; exact Nat.le_refl _
  rw [this]
  rfl

set_option maxHeartbeats 1000000 in
theorem alnum39 (s : ByteArray) (w : World) (hs : s.size ≤ maxLen) : Calls Try.prog 39 #[.string s] w fun e w' => e = .returned (.int .i64 (alLen s.data.toList : Nat)) ∧ ∃ q, w' = w.drewN q := by
  unfold maxLen at hs
  go_enter Try.func39, Try.ntmps39
  go_wp2
  go_loopw [3] (fun i wr => ∃ k q : Nat, k ≤ s.size ∧ i = .int .i64 k ∧ wr = w.drewN q ∧ alLen s.data.toList = k + alLen (s.data.toList.drop k)) (fun i _ => s.size - (intOf i).toNat)
  case atStart => exact ⟨0, 0, Nat.zero_le _, rfl, rfl, by simp⟩
  case round =>
    obtain ⟨k, q, hk, rfl, rfl, hpre⟩ := hrel
    have HP : Hid (alLen s.data.toList = k + alLen (s.data.toList.drop k)) := hpre
    clear hpre
    by_cases hlt : k < s.size
    · have i1 : (k : Int) < (s.size : Int) := by omega
      go_wp2
      go_quiet (fail)
      go_wp2
      all_goals first
        | (go_ret
           have hno : ¬ isAl s[k] = true := fun h => by have := (al_iff s[k]).1 h; omega
           exact ⟨ret_int (by rw [HP.out, al_stop hlt hno]; rfl), _, rfl⟩)
        | (go_roundw
           case rel =>
             have hyes : isAl s[k] = true := (al_iff s[k]).2 (by omega)
             exact ⟨k + 1, q + nq, by omega, by go_num, rfl, by rw [HP.out, al_go hlt hyes]; omega⟩
           case measure => simp [intOf]; omega)
    · obtain rfl : k = s.size := by omega
      go_wp2
      go_ret
      exact ⟨ret_int (by rw [HP.out, al_end]; rfl), _, rfl⟩

/-- strings.HasPrefix with a prefix of one byte. -/
theorem hd_size (s : ByteArray) (c : UInt8) (h : s.size = 0) : hd c s.data.toList = false := by
  rw [nil_of_size h]; rfl

theorem hd_ext (s : ByteArray) (c : UInt8) (h : ¬ s.size = 0) : ((s.extract 0 1).toList == [c]) = hd c s.data.toList := by
  rw [Lib.extract_toList]
  unfold hd
  cases hl : s.data.toList with
  | nil =>
    have h2 := congrArg List.length hl
    rw [Array.length_toList] at h2
    exact absurd h2 h
  | cons x l =>
    simp

theorem stringslite41 (s : ByteArray) (c : UInt8) (w : World) (hs : s.size ≤ maxLen) : Calls Try.prog 41 #[.string s, .string ⟨#[c]⟩] w fun e w' => e = .returned (.bool (hd c s.data.toList)) ∧ w = w' := by
  unfold maxLen at hs
  by_cases h0 : s.size = 0
  · rw [hd_size s c h0]
    have hz : ¬ (1 : Int) ≤ (s.size : Int) := by omega
    clear h0
    go_enter Try.func41, Try.ntmps41
    go_wp2
    go_ret
    exact ⟨rfl, rfl⟩
  · have he := hd_ext s c h0
    have hz : (1 : Int) ≤ (s.size : Int) := by omega
    go_enter Try.func41, Try.ntmps41
    go_wp2
    go_ret
    exact ⟨rfl, rfl⟩

theorem prefix30 (s : ByteArray) (c : UInt8) (w : World) (hs : s.size ≤ maxLen) : Calls Try.prog 30 #[.string s, .string ⟨#[c]⟩] w fun e w' => e = .returned (.bool (hd c s.data.toList)) ∧ w = w' := by
  go_enter Try.func30, Try.ntmps30
  go_wp2_with (go_at_call 41; refine (stringslite41 s c _ hs).mono ?_; rintro e w' ⟨rfl, rfl⟩)
  go_ret
  exact ⟨rfl, rfl⟩

theorem isAlnum23 (c : UInt8) (w : World) : Calls Try.prog 23 #[.int .u8 c.toNat] w fun e w' => e = .returned (.bool (isAl c)) ∧ w = w' := by
  cases hd : isD c with
  | true =>
    have ha : isAl c = true := by unfold isAl; rw [hd]; rfl
    rw [ha]
    go_enter Try.func23, Try.ntmps23
    go_wp2_with (go_at_call 31; refine (isDigit31 c _).mono ?_; rintro e w' ⟨rfl, rfl⟩; rw [hd])
    go_ret
    exact ⟨rfl, rfl⟩
  | false =>
    have ha : isAl c = ((decide (97 ≤ c.toNat) && decide (c.toNat ≤ 122)) || (decide (65 ≤ c.toNat) && decide (c.toNat ≤ 90))) := by unfold isAl; rw [hd]; rfl
    by_cases c1 : (97 : Int) ≤ (c.toNat : Int)
    · by_cases c2 : (c.toNat : Int) ≤ 122
      · have hb : isAl c = true := by rw [ha]; simp; omega
        rw [hb]
        clear ha hb
        go_enter Try.func23, Try.ntmps23
        go_wp2_with (go_at_call 31; refine (isDigit31 c _).mono ?_; rintro e w' ⟨rfl, rfl⟩; rw [hd])
        go_ret
        exact ⟨rfl, rfl⟩
      · have hb : isAl c = false := by rw [ha]; simp; omega
        have c3 : (65 : Int) ≤ (c.toNat : Int) := by omega
        have c4 : decide ((c.toNat : Int) ≤ 90) = false := decide_eq_false (by omega)
        have c5 : decide ((c.toNat : Int) ≤ 122) = false := decide_eq_false (by omega)
        rw [hb]
        clear ha hb
        go_enter Try.func23, Try.ntmps23
        go_wp2_with (go_at_call 31; refine (isDigit31 c _).mono ?_; rintro e w' ⟨rfl, rfl⟩; rw [hd])
        go_ret
        exact ⟨rfl, rfl⟩
    · have c1' : decide ((97 : Int) ≤ (c.toNat : Int)) = false := decide_eq_false c1
      by_cases c3 : (65 : Int) ≤ (c.toNat : Int)
      · by_cases c4 : (c.toNat : Int) ≤ 90
        · have hb : isAl c = true := by rw [ha]; simp; omega
          rw [hb]
          clear ha hb
          go_enter Try.func23, Try.ntmps23
          go_wp2_with (go_at_call 31; refine (isDigit31 c _).mono ?_; rintro e w' ⟨rfl, rfl⟩; rw [hd])
          go_ret
          exact ⟨rfl, rfl⟩
        · have hb : isAl c = false := by rw [ha]; simp; omega
          have c4' : decide ((c.toNat : Int) ≤ 90) = false := decide_eq_false c4
          rw [hb]
          clear ha hb
          go_enter Try.func23, Try.ntmps23
          go_wp2_with (go_at_call 31; refine (isDigit31 c _).mono ?_; rintro e w' ⟨rfl, rfl⟩; rw [hd])
          go_ret
          exact ⟨rfl, rfl⟩
      · have hb : isAl c = false := by rw [ha]; simp; omega
        have c3' : decide ((65 : Int) ≤ (c.toNat : Int)) = false := decide_eq_false c3
        rw [hb]
        clear ha hb
        go_enter Try.func23, Try.ntmps23
        go_wp2_with (go_at_call 31; refine (isDigit31 c _).mono ?_; rintro e w' ⟨rfl, rfl⟩; rw [hd])
        go_ret
        exact ⟨rfl, rfl⟩

/-- A run that the list reads as a value. -/
def vok (N : Nat → ByteArray) (n : Nat) (r : List UInt8) : Bool := numB r || (ff (fun i => foldsB ⟨r.toArray⟩ (N i)) n).isSome

theorem fold_idx (N : Nat → ByteArray) (n : Nat) (t : ByteArray) : ff (fun i => foldsB t (N i)) n = ff (fun i => decide (N i = lowS t)) n := by
  refine ff_congr n fun j => ?_
  unfold foldsB
  rw [decide_eq_decide]
  exact eq_comm

theorem mk_list (s : ByteArray) : (⟨s.data.toList.toArray⟩ : ByteArray) = s := by simp

theorem vok_swp (N : Nat → ByteArray) (n : Nat) (r : List UInt8) : vok N n (r.map sw) = vok N n r := by
  unfold vok
  rw [numB_map]
  congr 2
  refine ff_congr n fun j => ?_
  have e : (⟨(r.map sw).toArray⟩ : ByteArray) = swpS ⟨r.toArray⟩ := bytes_ext (by simp [swpS])
  rw [e, foldsB_swpS]

set_option maxHeartbeats 400000 in
theorem listValue24 (s : ByteArray) (a : Option Addr) (n c : Nat) (N : Nat → ByteArray) (w : World) (hs : s.size ≤ 4194304) (hn : n ≤ 1048576) (hN : Ns w a n N) :
    Calls Try.prog 24 #[.string s, .slice a n c] w fun e w' => e = .returned (.bool (vok N n s.data.toList)) ∧ Below w.heap.size w w' := by
  have hsm : s.size ≤ maxLen := by unfold maxLen; omega
  have hnm : n ≤ maxLen := by unfold maxLen; omega
  unfold vok
  rw [mk_list, fold_idx]
  cases hb : numB s.data.toList with
  | true =>
    go_enter Try.func24, Try.ntmps24
    go_wp2_with (go_at_call 25; refine (digits25 s _ hsm).mono ?_; rintro e w' ⟨rfl, rfl⟩; rw [hb])
    go_ret
    exact ⟨rfl, Below.refl _ _⟩
  | false =>
    cases hx : ff (fun i => decide (N i = lowS s)) n with
    | some i =>
      have hid : idxOf N n (lowS s) = (i : Int) := by unfold idxOf; rw [hx]
      have hge : (0 : Int) ≤ (i : Int) := by omega
      clear hx
      go_enter Try.func24, Try.ntmps24
      go_wp2_with (go_at_call 25; refine (digits25 s _ hsm).mono ?_; rintro e w' ⟨rfl, rfl⟩; rw [hb])
      refine (lower32 s _ hs).mono ?_
      rintro e w1 ⟨rfl, hbw⟩
      go_wp2_with fail
      refine (index22 (lowS s) a n c N _ hnm (hN.below hbw)).mono ?_
      rintro e w2 ⟨rfl, rfl⟩
      rw [hid]
      go_wp2_with fail
      go_ret
      exact ⟨rfl, hbw⟩
    | none =>
      have hid : idxOf N n (lowS s) = -1 := by unfold idxOf; rw [hx]
      clear hx
      go_enter Try.func24, Try.ntmps24
      go_wp2_with (go_at_call 25; refine (digits25 s _ hsm).mono ?_; rintro e w' ⟨rfl, rfl⟩; rw [hb])
      refine (lower32 s _ hs).mono ?_
      rintro e w1 ⟨rfl, hbw⟩
      go_wp2_with fail
      refine (index22 (lowS s) a n c N _ hnm (hN.below hbw)).mono ?_
      rintro e w2 ⟨rfl, rfl⟩
      rw [hid]
      go_wp2_with fail
      go_ret
      exact ⟨rfl, hbw⟩

end Go.Proofs.Qxb6616116a
