/-
  THE PLAIN LAW of varints: no Go in sight. What Lib.uvarintDec answers at a byte below 128; what it answers at Lib.uvarint x; how long Lib.uvarint x is.
-/
import Derived.Lib.VarintDec
import Derived.Lib.Varint
namespace Go.Proofs.Qxb6616226aFmt

/-- What seven bits a byte, the least first, spell. -/
def val : List UInt8 → Nat
  | [] => 0
  | b :: r => b.toNat % 128 + 128 * val r

theorem val_append (x y : List UInt8) : val (x ++ y) = val x + 128 ^ x.length * val y := by
  induction x with
  | nil => simp [val]
  | cons b r ih =>
    simp only [List.cons_append, val, ih, List.length_cons, Nat.pow_succ, Nat.mul_add]
    rw [Nat.add_assoc]
    congr 2
    rw [← Nat.mul_assoc, Nat.mul_comm 128 (128 ^ r.length)]

theorem take_snoc {l : List UInt8} {i : Nat} (h : i < l.length) : l.take (i + 1) = l.take i ++ [l[i]] := by
  rw [List.take_add_one, List.getElem?_eq_getElem h]; rfl

theorem val_snoc {l : List UInt8} {i : Nat} (h : i < l.length) : val (l.take (i + 1)) = val (l.take i) + 128 ^ i * (l[i].toNat % 128) := by
  rw [take_snoc h, val_append, List.length_take, Nat.min_eq_left (by omega)]
  simp [val]

theorem pow7 (i : Nat) : 2 ^ (7 * i) = 128 ^ i := by
  rw [Nat.pow_mul]

/-- While the bytes bear the bit 128 the decoder goes on. -/
theorem dec_at (l : List UInt8) : ∀ i, i ≤ l.length → i ≤ 10 → (∀ j (hj : j < l.length), j < i → 128 ≤ l[j].toNat) → Lib.uvarintDec l = Lib.uvarintFrom i (val (l.take i)) (l.drop i)
  | 0, _, _, _ => rfl
  | i + 1, hi, h10, hb => by
    have hlt : i < l.length := by omega
    rw [dec_at l i (by omega) (by omega) (fun j hj h => hb j hj (by omega)), List.drop_eq_getElem_cons hlt]
    have h128 := hb i hlt (by omega)
    simp only [Lib.uvarintFrom]
    rw [if_neg (by omega), if_neg (by omega), val_snoc hlt, pow7, Nat.mul_comm (l[i].toNat % 128)]

/-- None of the first ten bytes ends it. -/
theorem dec_none (l : List UInt8) (i : Nat) (hi : i ≤ l.length) (h10 : i ≤ 10) (hend : i = l.length ∨ i = 10) (hb : ∀ j (hj : j < l.length), j < i → 128 ≤ l[j].toNat) : (Lib.uvarintDec l).1 = 0 ∧ (Lib.uvarintDec l).2 ≤ 0 := by
  rw [dec_at l i hi h10 hb]
  by_cases he : i = l.length
  · rw [List.drop_eq_nil_of_le (by omega)]
    exact ⟨rfl, Int.le_refl _⟩
  · have hlt : i < l.length := by omega
    rw [List.drop_eq_getElem_cons hlt]
    simp only [Lib.uvarintFrom]
    rw [if_pos (by omega)]
    exact ⟨rfl, by show -((i : Int) + 1) ≤ 0; omega⟩

/-- The i'th byte ends it. -/
theorem dec_end (l : List UInt8) (i : Nat) (hi : i < l.length) (h10 : i < 10) (hb : ∀ j (hj : j < l.length), j < i → 128 ≤ l[j].toNat) (hlow : l[i].toNat < 128) (hok : ¬ (i = 9 ∧ 1 < l[i].toNat)) :
    Lib.uvarintDec l = (val (l.take (i + 1)), ((i + 1 : Nat) : Int)) := by
  rw [dec_at l i (by omega) (by omega) hb, List.drop_eq_getElem_cons hi]
  simp only [Lib.uvarintFrom]
  rw [if_neg (by omega), if_pos hlow, if_neg hok, val_snoc hi, pow7, Nat.mod_eq_of_lt hlow, Nat.mul_comm (l[i].toNat)]
  rfl

/-- The tenth byte is too great. -/
theorem dec_over (l : List UInt8) (i : Nat) (hi : i < l.length) (hb : ∀ j (hj : j < l.length), j < i → 128 ≤ l[j].toNat) (hlow : l[i].toNat < 128) (hok : i = 9 ∧ 1 < l[i].toNat) :
    (Lib.uvarintDec l).1 = 0 ∧ (Lib.uvarintDec l).2 ≤ 0 := by
  rw [dec_at l i (by omega) (by omega) hb, List.drop_eq_getElem_cons hi]
  simp only [Lib.uvarintFrom]
  rw [if_neg (by omega), if_pos hlow, if_pos hok]
  exact ⟨rfl, by show -((i : Int) + 1) ≤ 0; omega⟩

/-- It reads no more than there is. -/
theorem from_le : ∀ (l : List UInt8) (i acc : Nat), (Lib.uvarintFrom i acc l).2 ≤ ((i + l.length : Nat) : Int)
  | [], i, _ => by show (0 : Int) ≤ _; omega
  | b :: r, i, acc => by
    simp only [Lib.uvarintFrom]
    split
    · show -((i : Int) + 1) ≤ _; omega
    · split
      · split
        · show -((i : Int) + 1) ≤ _; omega
        · show (i : Int) + 1 ≤ _; rw [List.length_cons]; omega
      · have := from_le r (i + 1) (acc + b.toNat % 128 * 2 ^ (7 * i))
        rw [List.length_cons]
        omega

theorem dec_le (l : List UInt8) : (Lib.uvarintDec l).2 ≤ (l.length : Int) := by
  have := from_le l 0 0
  unfold Lib.uvarintDec
  omega

theorem from_zero : ∀ (l : List UInt8) (i acc : Nat), (Lib.uvarintFrom i acc l).2 ≤ 0 → (Lib.uvarintFrom i acc l).1 = 0
  | [], _, _, _ => rfl
  | b :: r, i, acc, h => by
    simp only [Lib.uvarintFrom] at h ⊢
    split at h
    · rename_i h1; rw [if_pos h1]
    · rename_i h1
      rw [if_neg h1]
      split at h
      · rename_i h2
        rw [if_pos h2]
        split at h
        · rename_i h3; rw [if_pos h3]
        · change (i : Int) + 1 ≤ 0 at h; omega
      · rename_i h2
        rw [if_neg h2]
        exact from_zero r (i + 1) _ h

theorem dec_zero (l : List UInt8) (h : (Lib.uvarintDec l).2 ≤ 0) : (Lib.uvarintDec l).1 = 0 := from_zero l 0 0 h

/-! ### Reading back what was written -/
theorem toU8 {a : Nat} (h : a < 256) : (a.toUInt8).toNat = a := by
  show a % 256 = a
  omega

theorem from_uvarint : ∀ (k x i acc : Nat), x < 128 ^ (k + 1) → i + k < 9 → Lib.uvarintFrom i acc (Lib.uvarint x) = (acc + x * 128 ^ i, ((i + (Lib.uvarint x).length : Nat) : Int))
  | 0, x, i, acc, hx, hik => by
    rw [Lib.uvarint_small (by simpa using hx)]
    have h1 : (x.toUInt8).toNat = x := toU8 (by simp at hx; omega)
    simp only [Lib.uvarintFrom]
    rw [if_neg (by omega), h1, if_pos (by simpa using hx), if_neg (by omega), pow7]
    rfl
  | k + 1, x, i, acc, hx, hik => by
    by_cases hs : x < 128
    · rw [Lib.uvarint_small hs]
      have h1 : (x.toUInt8).toNat = x := toU8 (by omega)
      simp only [Lib.uvarintFrom]
      rw [if_neg (by omega), h1, if_pos hs, if_neg (by omega), pow7]
      rfl
    · rw [Lib.uvarint_big (by omega)]
      have h1 : ((x % 128 + 128).toUInt8).toNat = x % 128 + 128 := toU8 (by omega)
      simp only [Lib.uvarintFrom]
      rw [if_neg (by omega), h1, if_neg (by omega)]
      have hq : x / 128 < 128 ^ (k + 1) := by
        rw [Nat.div_lt_iff_lt_mul (by decide)]
        rw [Nat.pow_succ] at hx
        exact hx
      rw [from_uvarint k (x / 128) (i + 1) _ hq (by omega), pow7]
      refine Prod.ext ?_ ?_
      · show acc + (x % 128 + 128) % 128 * 128 ^ i + x / 128 * 128 ^ (i + 1) = acc + x * 128 ^ i
        have e : (x % 128 + 128) % 128 = x % 128 := by omega
        rw [e, Nat.pow_succ, Nat.mul_comm (128 ^ i) 128, ← Nat.mul_assoc, Nat.add_assoc, ← Nat.add_mul]
        congr 2
        omega
      · show ((i + 1 + (Lib.uvarint (x / 128)).length : Nat) : Int) = ((i + ((x % 128 + 128).toUInt8 :: Lib.uvarint (x / 128)).length : Nat) : Int)
        rw [List.length_cons]
        omega

theorem dec_uvarint (x : Nat) (hx : x < 128 ^ 4) : Lib.uvarintDec (Lib.uvarint x) = (x, ((Lib.uvarint x).length : Int)) := by
  unfold Lib.uvarintDec
  rw [from_uvarint 3 x 0 0 hx (by omega)]
  simp

end Go.Proofs.Qxb6616226aFmt
