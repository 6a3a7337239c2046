/-
  THE PLAIN LAW of cron's lists: terms, lists, the token automaton, the case of letters, joining by a comma. No Go in sight.
-/
import Derived.Test.Qxb6616116aPlain
namespace Go.Proofs.Qxb6616116a

/-- A letter or a digit. -/
def isAl (c : UInt8) : Bool := isD c || (decide (97 ≤ c.toNat) && decide (c.toNat ≤ 122)) || (decide (65 ≤ c.toNat) && decide (c.toNat ≤ 90))
theorem isAl_sw (c : UInt8) : isAl (sw c) = isAl c := all256 (p := fun c => isAl (sw c) = isAl c) (by decide +kernel) c

/-- The length of the run of letters and digits that l opens with. -/
def alLen (l : List UInt8) : Nat := (l.takeWhile isAl).length
/-- That run. -/
def run (l : List UInt8) : List UInt8 := l.take (alLen l)
/-- l opens with c. -/
def hd (c : UInt8) (l : List UInt8) : Bool := l.head? == some c

theorem alLen_le (l : List UInt8) : alLen l ≤ l.length := by
  unfold alLen
  exact (List.takeWhile_sublist _).length_le

theorem hd_pos {c : UInt8} {l : List UInt8} (h : hd c l = true) : 0 < l.length := by
  cases l with
  | nil => simp [hd] at h
  | cons _ _ => simp

theorem hd_drop {c : UInt8} {L : List UInt8} {q : Nat} (h : hd c (L.drop q) = true) : q < L.length := by
  have := hd_pos h
  simp at this
  omega

theorem numB_pos {l : List UInt8} (h : numB (run l) = true) : 0 < alLen l := by
  unfold numB run at h
  rcases Nat.eq_zero_or_pos (alLen l) with e | e
  · rw [e] at h; simp at h
  · exact e

theorem alLen_drop (L : List UInt8) (q : Nat) (hq : q ≤ L.length) : q + alLen (L.drop q) ≤ L.length := by
  have := alLen_le (L.drop q)
  simp at this
  omega

section
variable (V : List UInt8 → Bool)

/-- What may follow a value, '*' or a range: a step. -/
def rest (ranged : Bool) (l : List UInt8) (n : Nat) : Option Nat :=
  if hd 47 (l.drop n) = true then (if (numB (run (l.drop (n + 1))) && ranged) = true then some (n + 1 + alLen (l.drop (n + 1))) else none) else some n

/-- The length of the term that l opens with, where cron takes it. -/
def termOf (l : List UInt8) : Option Nat :=
  if hd 42 l = true then rest true l 1 else
  if V (run l) = true then (if hd 45 (l.drop (alLen l)) = true then
      (if V (run (l.drop (alLen l + 1))) = true then rest true l (alLen l + 1 + alLen (l.drop (alLen l + 1))) else none)
    else rest false l (alLen l)) else none

/-- The list's end, from p on, with fuel. -/
def lf (L : List UInt8) : Nat → Nat → Nat
  | 0, _ => L.length
  | f + 1, p => match termOf V (L.drop p) with
    | none => L.length
    | some n => if hd 44 (L.drop (p + n)) = true then lf L f (p + n + 1) else p + n

/-- The list's end, from p on. -/
def lft (L : List UInt8) (p : Nat) : Nat := lf V L (L.length + 1 - p) p
/-- The list's end. -/
def listOf (L : List UInt8) : Nat := lft V L 0

theorem lf_fuel (L : List UInt8) : ∀ (f g p : Nat), p ≤ L.length → L.length + 1 - p ≤ f → L.length + 1 - p ≤ g → lf V L f p = lf V L g p
  | 0, _, _, hp, h, _ => by omega
  | _ + 1, 0, _, hp, _, h => by omega
  | f + 1, g + 1, p, hp, h1, h2 => by
    simp only [lf]
    cases ht : termOf V (L.drop p) with
    | none => rfl
    | some n =>
      simp only []
      by_cases hc : hd 44 (L.drop (p + n)) = true
      · rw [if_pos hc, if_pos hc]
        have := hd_drop hc
        exact lf_fuel L f g _ (by omega) (by omega) (by omega)
      · rw [if_neg hc, if_neg hc]

theorem lft_eq (L : List UInt8) (p : Nat) (hp : p ≤ L.length) : lft V L p = match termOf V (L.drop p) with
    | none => L.length
    | some n => if hd 44 (L.drop (p + n)) = true then lft V L (p + n + 1) else p + n := by
  unfold lft
  obtain ⟨f, hf⟩ : ∃ f, L.length + 1 - p = f + 1 := ⟨L.length - p, by omega⟩
  rw [hf]
  simp only [lf]
  cases ht : termOf V (L.drop p) with
  | none => rfl
  | some n =>
    simp only []
    by_cases hc : hd 44 (L.drop (p + n)) = true
    · rw [if_pos hc, if_pos hc]
      have := hd_drop hc
      exact lf_fuel V L _ _ _ (by omega) (by omega) (by omega)
    · rw [if_neg hc, if_neg hc]

/-! ### What the automaton's states stand for -/
/-- Behind a whole term. -/
def after (L : List UInt8) (q : Nat) : Nat := if hd 44 (L.drop q) = true then lft V L (q + 1) else q
def s4 (L : List UInt8) (q : Nat) : Nat := if numB (run (L.drop q)) = true then after V L (q + alLen (L.drop q)) else L.length
def s3 (L : List UInt8) (q : Nat) : Nat := if hd 47 (L.drop q) = true then s4 V L (q + 1) else after V L q
def s2 (L : List UInt8) (q : Nat) : Nat := if V (run (L.drop q)) = true then s3 V L (q + alLen (L.drop q)) else L.length
def s1 (L : List UInt8) (q : Nat) : Nat := if hd 45 (L.drop q) = true then s2 V L (q + 1) else if hd 47 (L.drop q) = true then L.length else after V L q
def s0 (L : List UInt8) (q : Nat) : Nat := if hd 42 (L.drop q) = true then s3 V L (q + 1) else if V (run (L.drop q)) = true then s1 V L (q + alLen (L.drop q)) else L.length

/-- Behind a term of length n at p. -/
def fin (L : List UInt8) (p : Nat) : Option Nat → Nat
  | none => L.length
  | some n => after V L (p + n)

theorem fin_rest (L : List UInt8) (p n : Nat) : fin V L p (rest true (L.drop p) n) = s3 V L (p + n) := by
  unfold rest s3 s4
  simp only [List.drop_drop, Bool.and_true]
  have e : p + (n + 1) = p + n + 1 := by omega
  rw [e]
  by_cases h : hd 47 (L.drop (p + n)) = true
  · rw [if_pos h, if_pos h]
    by_cases h2 : numB (run (L.drop (p + n + 1))) = true
    · rw [if_pos h2, if_pos h2]
      show after V L (p + (n + 1 + alLen (L.drop (p + n + 1)))) = _
      congr 1
      omega
    · rw [if_neg h2, if_neg h2]
      rfl
  · rw [if_neg h, if_neg h]
    rfl

theorem fin_rest1 (L : List UInt8) (p n : Nat) : fin V L p (rest false (L.drop p) n) = if hd 47 (L.drop (p + n)) = true then L.length else after V L (p + n) := by
  unfold rest
  simp only [List.drop_drop, Bool.and_false]
  by_cases h : hd 47 (L.drop (p + n)) = true
  · rw [if_pos h, if_pos h]
    rfl
  · rw [if_neg h, if_neg h]
    rfl

theorem hd_unique {a b : UInt8} {l : List UInt8} (ha : hd a l = true) (hne : a ≠ b) : hd b l = false := by
  unfold hd at ha ⊢
  rw [beq_iff_eq] at ha
  rw [ha]
  simpa using hne

theorem fin_term (L : List UInt8) (p : Nat) : fin V L p (termOf V (L.drop p)) = s0 V L p := by
  unfold termOf s0
  by_cases h1 : hd 42 (L.drop p) = true
  · rw [if_pos h1, if_pos h1]
    exact fin_rest V L p 1
  · rw [if_neg h1, if_neg h1]
    by_cases h2 : V (run (L.drop p)) = true
    · rw [if_pos h2, if_pos h2]
      unfold s1
      simp only [List.drop_drop]
      by_cases h3 : hd 45 (L.drop (p + alLen (L.drop p))) = true
      · rw [if_pos h3, if_pos h3]
        unfold s2
        have e : p + (alLen (L.drop p) + 1) = p + alLen (L.drop p) + 1 := by omega
        rw [e]
        by_cases h4 : V (run (L.drop (p + alLen (L.drop p) + 1))) = true
        · rw [if_pos h4, if_pos h4, fin_rest]
          congr 1
          omega
        · rw [if_neg h4, if_neg h4]
          rfl
      · rw [if_neg h3, if_neg h3]
        exact fin_rest1 V L p (alLen (L.drop p))
    · rw [if_neg h2, if_neg h2]
      rfl

/-- THE LIST IS WHAT STATE 0 STANDS FOR. -/
theorem lft_s0 (L : List UInt8) (p : Nat) (hp : p ≤ L.length) : lft V L p = s0 V L p := by
  rw [← fin_term, lft_eq V L p hp]
  cases termOf V (L.drop p) with
  | none => rfl
  | some n => rfl

/-! ### The token automaton -/
def ml (L : List UInt8) : Nat → Nat → Nat → Nat
  | 0, _, _ => L.length
  | f + 1, st, p =>
    if st = 0 then (if hd 42 (L.drop p) = true then ml L f 3 (p + 1) else if V (run (L.drop p)) = true then ml L f 1 (p + alLen (L.drop p)) else L.length)
    else if st = 1 then (if hd 45 (L.drop p) = true then ml L f 2 (p + 1) else if hd 47 (L.drop p) = true then L.length else if hd 44 (L.drop p) = true then ml L f 0 (p + 1) else p)
    else if st = 2 then (if V (run (L.drop p)) = true then ml L f 3 (p + alLen (L.drop p)) else L.length)
    else if st = 3 then (if hd 47 (L.drop p) = true then ml L f 4 (p + 1) else if hd 44 (L.drop p) = true then ml L f 0 (p + 1) else p)
    else if st = 4 then (if numB (run (L.drop p)) = true then ml L f 5 (p + alLen (L.drop p)) else L.length)
    else (if hd 44 (L.drop p) = true then ml L f 0 (p + 1) else p)

/-- What state st stands for. -/
def sOf (L : List UInt8) (st p : Nat) : Nat :=
  if st = 0 then s0 V L p else if st = 1 then s1 V L p else if st = 2 then s2 V L p else if st = 3 then s3 V L p else if st = 4 then s4 V L p else after V L p

/-- How many steps more than three a byte a state may want. -/
def slack (st : Nat) : Nat := if st = 0 then 2 else if st = 2 then 2 else 1

theorem ml_spec (L : List UInt8) : ∀ (f st p : Nat), p ≤ L.length → 3 * (L.length - p) + slack st ≤ f → ml V L f st p = sOf V L st p
  | 0, st, p, _, h => by
    have : 1 ≤ slack st := by unfold slack; split <;> (try split) <;> omega
    omega
  | f + 1, st, p, hp, h => by
    have hal := alLen_drop L p hp
    unfold slack at h
    simp only [ml, sOf]
    by_cases c0 : st = 0
    · rw [if_pos c0, if_pos c0]
      rw [if_pos c0] at h
      unfold s0
      by_cases h1 : hd 42 (L.drop p) = true
      · have := hd_drop h1
        rw [if_pos h1, if_pos h1, ml_spec L f 3 (p + 1) (by omega) (by simp [slack]; omega)]
        rfl
      · rw [if_neg h1, if_neg h1]
        by_cases h2 : V (run (L.drop p)) = true
        · rw [if_pos h2, if_pos h2, ml_spec L f 1 _ hal (by simp [slack]; omega)]
          rfl
        · rw [if_neg h2, if_neg h2]
    · rw [if_neg c0, if_neg c0]
      rw [if_neg c0] at h
      by_cases c1 : st = 1
      · rw [if_pos c1, if_pos c1]
        rw [if_neg (by omega)] at h
        unfold s1 after
        by_cases h1 : hd 45 (L.drop p) = true
        · have := hd_drop h1
          rw [if_pos h1, if_pos h1, ml_spec L f 2 (p + 1) (by omega) (by simp [slack]; omega)]
          rfl
        · rw [if_neg h1, if_neg h1]
          by_cases h2 : hd 47 (L.drop p) = true
          · rw [if_pos h2, if_pos h2]
          · rw [if_neg h2, if_neg h2]
            by_cases h3 : hd 44 (L.drop p) = true
            · have := hd_drop h3
              rw [if_pos h3, if_pos h3, ml_spec L f 0 (p + 1) (by omega) (by simp [slack]; omega), lft_s0 V L _ (by omega)]
              rfl
            · rw [if_neg h3, if_neg h3]
      · rw [if_neg c1, if_neg c1]
        by_cases c2 : st = 2
        · rw [if_pos c2, if_pos c2]
          rw [if_pos c2] at h
          unfold s2
          by_cases h2 : V (run (L.drop p)) = true
          · rw [if_pos h2, if_pos h2, ml_spec L f 3 _ hal (by simp [slack]; omega)]
            rfl
          · rw [if_neg h2, if_neg h2]
        · rw [if_neg c2, if_neg c2]
          rw [if_neg c2] at h
          by_cases c3 : st = 3
          · rw [if_pos c3, if_pos c3]
            unfold s3 after
            by_cases h1 : hd 47 (L.drop p) = true
            · have := hd_drop h1
              rw [if_pos h1, if_pos h1, ml_spec L f 4 (p + 1) (by omega) (by simp [slack]; omega)]
              rfl
            · rw [if_neg h1, if_neg h1]
              by_cases h3 : hd 44 (L.drop p) = true
              · have := hd_drop h3
                rw [if_pos h3, if_pos h3, ml_spec L f 0 (p + 1) (by omega) (by simp [slack]; omega), lft_s0 V L _ (by omega)]
                rfl
              · rw [if_neg h3, if_neg h3]
          · rw [if_neg c3, if_neg c3]
            by_cases c4 : st = 4
            · rw [if_pos c4, if_pos c4]
              unfold s4
              by_cases h2 : numB (run (L.drop p)) = true
              · have := numB_pos h2
                rw [if_pos h2, if_pos h2, ml_spec L f 5 _ hal (by simp [slack]; omega)]
                rfl
              · rw [if_neg h2, if_neg h2]
            · rw [if_neg c4, if_neg c4]
              unfold after
              by_cases h3 : hd 44 (L.drop p) = true
              · have := hd_drop h3
                rw [if_pos h3, if_pos h3, ml_spec L f 0 (p + 1) (by omega) (by simp [slack]; omega), lft_s0 V L _ (by omega)]
                rfl
              · rw [if_neg h3, if_neg h3]

/-- THE AUTOMATON FINDS THE LIST. -/
theorem ml_list (L : List UInt8) : ml V L (3 * L.length + 4) 0 0 = listOf V L := by
  unfold listOf
  rw [ml_spec V L _ 0 0 (Nat.zero_le _) (by simp [slack]), lft_s0 V L 0 (Nat.zero_le _)]
  rfl

end
end Go.Proofs.Qxb6616116a
