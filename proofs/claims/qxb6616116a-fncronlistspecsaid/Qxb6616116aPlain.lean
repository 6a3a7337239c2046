/-
  THE PLAIN LAW of the statements on the cron lists: letters, numerals, names. No Go in sight.
-/
namespace Go.Proofs.Qxb6616116a

/-- A letter in lower case; every other byte as it is. -/
def lo (c : UInt8) : UInt8 := if 65 ≤ c.toNat ∧ c.toNat ≤ 90 then c + 32 else c
/-- A letter in the other case. -/
def sw (c : UInt8) : UInt8 := if 65 ≤ c.toNat ∧ c.toNat ≤ 90 then c + 32 else if 97 ≤ c.toNat ∧ c.toNat ≤ 122 then c - 32 else c
/-- A digit. -/
def isD (c : UInt8) : Bool := decide (48 ≤ c.toNat) && decide (c.toNat ≤ 57)

theorem all256 {p : UInt8 → Prop} (h : ∀ n : Fin 256, p (UInt8.ofNat n.val)) (c : UInt8) : p c := by
  have := h ⟨c.toNat, UInt8.toNat_lt c⟩
  simpa using this

theorem lo_sw (c : UInt8) : lo (sw c) = lo c := all256 (p := fun c => lo (sw c) = lo c) (by decide +kernel) c
theorem isD_sw (c : UInt8) : isD (sw c) = isD c := all256 (p := fun c => isD (sw c) = isD c) (by decide +kernel) c

/-- A text in lower case. -/
def lowS (s : ByteArray) : ByteArray := ⟨s.data.map lo⟩
/-- A text in the other case. -/
def swpS (s : ByteArray) : ByteArray := ⟨s.data.map sw⟩

theorem lowS_swpS (s : ByteArray) : lowS (swpS s) = lowS s := by
  unfold lowS swpS
  simp [Array.map_map, Function.comp_def, lo_sw]

/-- The text, its letters in lower case, is l. -/
def foldsB (t l : ByteArray) : Bool := decide (lowS t = l)

theorem foldsB_swpS (s l : ByteArray) : foldsB (swpS s) l = foldsB s l := by unfold foldsB; rw [lowS_swpS]

/-- The first i below n with p i. -/
def ff (p : Nat → Bool) : Nat → Option Nat
  | 0 => none
  | n + 1 => match ff p n with
    | some i => some i
    | none => if p n = true then some n else none

theorem ff_none {p : Nat → Bool} {n : Nat} (h : ∀ j, j < n → p j = false) : ff p n = none := by
  induction n with
  | zero => rfl
  | succ n ih => simp [ff, ih fun j hj => h j (by omega), h n (by omega)]

theorem ff_hit {p : Nat → Bool} {k n : Nat} (hk : k < n) (hp : p k = true) (h : ∀ j, j < k → p j = false) : ff p n = some k := by
  induction n with
  | zero => omega
  | succ n ih =>
    by_cases e : k = n
    · subst e
      simp [ff, ff_none h, hp]
    · simp [ff, ih (by omega)]

theorem ff_lt {p : Nat → Bool} {n i : Nat} (h : ff p n = some i) : i < n := by
  induction n with
  | zero => simp [ff] at h
  | succ n ih =>
    unfold ff at h
    cases hf : ff p n with
    | some j =>
      rw [hf] at h
      simp at h
      subst h
      exact Nat.lt_succ_of_lt (ih hf)
    | none =>
      rw [hf] at h
      simp at h
      omega

theorem ff_congr {p q : Nat → Bool} (n : Nat) (h : ∀ j, p j = q j) : ff p n = ff q n := by
  have : p = q := funext h
  rw [this]

/-! ### Texts byte by byte -/
theorem take_snoc (s : ByteArray) (k : Nat) (h : k < s.size) : s.data.toList.take (k + 1) = s.data.toList.take k ++ [s[k]] := by
  rw [List.take_succ_eq_append_getElem (by simpa using h)]; rfl

theorem lo_nat (c : UInt8) : (lo c).toNat = if 65 ≤ c.toNat ∧ c.toNat ≤ 90 then c.toNat + 32 else c.toNat := by
  unfold lo
  split
  · rw [UInt8.toNat_add]; simp; omega
  · rfl
theorem sw_nat (c : UInt8) : (sw c).toNat = if 65 ≤ c.toNat ∧ c.toNat ≤ 90 then c.toNat + 32 else if 97 ≤ c.toNat ∧ c.toNat ≤ 122 then c.toNat - 32 else c.toNat := by
  unfold sw
  split
  · rw [UInt8.toNat_add]; simp; omega
  · split
    · rw [UInt8.toNat_sub]; simp; omega
    · rfl
theorem lo_eq {c d : UInt8} (h : (if 65 ≤ c.toNat ∧ c.toNat ≤ 90 then c.toNat + 32 else c.toNat) = d.toNat) : lo c = d := UInt8.toNat_inj.1 ((lo_nat c).trans h)
theorem lo_ne {c d : UInt8} (h : (if 65 ≤ c.toNat ∧ c.toNat ≤ 90 then c.toNat + 32 else c.toNat) ≠ d.toNat) : lo c ≠ d := fun e => h ((lo_nat c).symm.trans (congrArg _ e))

theorem data_get (s : ByteArray) (k : Nat) (h : k < s.size) : s.data.toList[k]? = some s[k] := by
  rw [List.getElem?_eq_getElem (by simpa using h)]; rfl

theorem lowS_list (t : ByteArray) : (lowS t).data.toList = t.data.toList.map lo := by simp [lowS]

theorem lowS_size (t : ByteArray) : (lowS t).size = t.size := by
  show (t.data.map lo).size = t.data.size
  simp

theorem swpS_size (t : ByteArray) : (swpS t).size = t.size := by
  show (t.data.map sw).size = t.data.size
  simp

theorem bytes_ext {a b : ByteArray} (h : a.data.toList = b.data.toList) : a = b := by
  cases a with | mk x => cases b with | mk y => exact congrArg _ (Array.toList_inj.1 h)

theorem folds_no (t l : ByteArray) {k : Nat} (h : k < t.size) (h2 : k < l.size) (hne : lo t[k] ≠ l[k]) : foldsB t l = false := by
  unfold foldsB
  refine decide_eq_false fun e => hne ?_
  have h3 := congrArg (fun s : ByteArray => s.data.toList[k]?) e
  simp only [lowS_list, List.getElem?_map, data_get t k h, data_get l k h2, Option.map_some] at h3
  exact Option.some.inj h3

theorem folds_len (t l : ByteArray) (h : t.size ≠ l.size) : foldsB t l = false := by
  unfold foldsB
  refine decide_eq_false fun e => h ?_
  rw [← e, lowS_size]

theorem folds_step {t l : ByteArray} {k : Nat} (hp : (t.data.toList.take k).map lo = l.data.toList.take k) (h : k < t.size) (h2 : k < l.size) (e : lo t[k] = l[k]) : (t.data.toList.take (k + 1)).map lo = l.data.toList.take (k + 1) := by
  rw [take_snoc t k h, take_snoc l k h2, List.map_append, hp]
  simp [e]

theorem folds_yes {t l : ByteArray} (hp : (t.data.toList.take t.size).map lo = l.data.toList.take t.size) (h : t.size = l.size) : foldsB t l = true := by
  unfold foldsB
  refine decide_eq_true (bytes_ext ?_)
  rw [lowS_list]
  rw [List.take_of_length_le (by simp), List.take_of_length_le (by simp [h])] at hp
  exact hp

/-! ### Numerals -/
/-- One digit more, held at 65536. -/
def stp (n : Nat) (c : UInt8) : Nat := min (n * 10 + (c.toNat - 48)) 65536
/-- One digit more. -/
def stq (n : Nat) (c : UInt8) : Nat := n * 10 + (c.toNat - 48)
/-- What 'number' reads. -/
def satVal (l : List UInt8) : Nat := l.foldl stp 0
/-- The number that the digits write. -/
def decVal (l : List UInt8) : Nat := l.foldl stq 0
/-- The text is a numeral. -/
def numB (l : List UInt8) : Bool := !l.isEmpty && l.all isD

theorem sat_from (l : List UInt8) (a : Nat) : l.foldl stp (min a 65536) = min (l.foldl stq a) 65536 := by
  induction l generalizing a with
  | nil => rfl
  | cons c l ih =>
    simp only [List.foldl_cons]
    have e : stp (min a 65536) c = min (stq a c) 65536 := by
      unfold stp stq
      omega
    rw [e, ih]

theorem satVal_eq (l : List UInt8) : satVal l = min (decVal l) 65536 := by
  have := sat_from l 0
  simpa [satVal, decVal] using this

theorem satVal_le (l : List UInt8) : satVal l ≤ 65536 := by rw [satVal_eq]; omega

/-- Leading zeros dropped. -/
def stripZ (l : List UInt8) : List UInt8 := l.dropWhile (fun c => c.toNat == 48)

theorem dec_strip (l : List UInt8) : decVal (stripZ l) = decVal l := by
  unfold stripZ
  induction l with
  | nil => rfl
  | cons c l ih =>
    by_cases h : c.toNat = 48
    · rw [List.dropWhile_cons_of_pos (by simpa using h), ih]
      simp [decVal, stq, h]
    · rw [List.dropWhile_cons_of_neg (by simpa using h)]

theorem dec_ge (l : List UInt8) (a : Nat) : a * 10 ^ l.length ≤ l.foldl stq a := by
  induction l generalizing a with
  | nil => simp
  | cons c l ih =>
    simp only [List.foldl_cons, List.length_cons]
    refine Nat.le_trans ?_ (ih (stq a c))
    rw [Nat.pow_succ, Nat.mul_comm (10 ^ l.length) 10, ← Nat.mul_assoc]
    exact Nat.mul_le_mul_right _ (by unfold stq; omega)

theorem dec_lt (l : List UInt8) (a : Nat) (h : l.all isD = true) : l.foldl stq a < (a + 1) * 10 ^ l.length := by
  induction l generalizing a with
  | nil => simp
  | cons c l ih =>
    simp only [List.all_cons, Bool.and_eq_true] at h
    simp only [List.foldl_cons, List.length_cons]
    refine Nat.lt_of_lt_of_le (ih (stq a c) h.2) ?_
    rw [Nat.pow_succ, Nat.mul_comm (10 ^ l.length) 10, ← Nat.mul_assoc]
    refine Nat.mul_le_mul_right _ ?_
    have hc := h.1
    simp [isD] at hc
    unfold stq
    omega

theorem stp_snoc (l : List UInt8) (c : UInt8) : satVal (l ++ [c]) = min (satVal l * 10 + (c.toNat - 48)) 65536 := by
  simp [satVal, stp]
theorem all_snoc (l : List UInt8) (c : UInt8) : (l ++ [c]).all isD = (l.all isD && isD c) := by simp

theorem all_take_no {s : ByteArray} {k : Nat} (h : k < s.size) (hd : isD s[k] = false) : s.data.toList.all isD = false := by
  have hm : s[k] ∈ s.data.toList := List.mem_of_getElem? (data_get s k h)
  cases hq : s.data.toList.all isD with
  | false => rfl
  | true =>
    rw [List.all_eq_true] at hq
    rw [hq _ hm] at hd
    cases hd

theorem numB_no {s : ByteArray} {k : Nat} (h : k < s.size) (hd : isD s[k] = false) : numB s.data.toList = false := by
  unfold numB
  rw [all_take_no h hd]
  simp

theorem nil_of_size {s : ByteArray} (h0 : s.size = 0) : s.data.toList = [] := List.eq_nil_of_length_eq_zero (by rw [Array.length_toList]; exact h0)
theorem nonempty_of_size {s : ByteArray} (h0 : ¬ s.size = 0) : s.data.toList.isEmpty = false := by
  rw [List.isEmpty_eq_false_iff]
  intro e
  have h2 := congrArg List.length e
  rw [Array.length_toList] at h2
  exact h0 h2

theorem numB_yes {s : ByteArray} (h0 : ¬ s.size = 0) (h : (s.data.toList.take s.size).all isD = true) : numB s.data.toList = true := by
  unfold numB
  rw [List.take_of_length_le (by simp)] at h
  rw [h, nonempty_of_size h0]
  rfl

theorem numB_empty {s : ByteArray} (h0 : s.size = 0) : numB s.data.toList = false := by
  rw [nil_of_size h0]
  rfl

/-- What 'number' hands back beside its verdict. -/
def numV (l : List UInt8) : Nat := if numB l = true then satVal l else 0
theorem numV_no {l : List UInt8} (h : numB l = false) : numV l = 0 := by unfold numV; rw [h]; rfl
theorem numV_yes {l : List UInt8} (h : numB l = true) : numV l = satVal l := by unfold numV; rw [h]; rfl
theorem numV_le (l : List UInt8) : numV l ≤ 65536 := by
  unfold numV
  split
  · exact satVal_le l
  · omega

/-- The model's numeral: leading zeros dropped, more than five digits left is 65536. -/
def numeral (l : List UInt8) : Nat := if 5 < (stripZ l).length then 65536 else min (decVal (stripZ l)) 65536

theorem strip_head {l r : List UInt8} {c : UInt8} (h : stripZ l = c :: r) : c.toNat ≠ 48 := by
  unfold stripZ at h
  have := List.head?_dropWhile_not (fun c : UInt8 => c.toNat == 48) l
  rw [h] at this
  simpa using this

theorem strip_all {l : List UInt8} (h : l.all isD = true) : (stripZ l).all isD = true := by
  unfold stripZ
  rw [List.all_eq_true] at h ⊢
  intro c hc
  exact h c ((List.dropWhile_sublist _).subset hc)

theorem sat_step (l : List UInt8) (c : UInt8) (h : 48 ≤ c.toNat) : (if (65536 : Int) < (satVal l : Int) * 10 + ((c.toNat : Int) - 48) then (65536 : Int) else (satVal l : Int) * 10 + ((c.toNat : Int) - 48)) = ((satVal (l ++ [c]) : Nat) : Int) := by
  rw [stp_snoc]
  split <;> omega

theorem dec_snoc (l : List UInt8) (c : UInt8) : decVal (l ++ [c]) = decVal l * 10 + (c.toNat - 48) := by simp [decVal, stq]

theorem dec_small {l : List UInt8} (h : l.all isD = true) (h5 : l.length ≤ 5) : decVal l ≤ 99999 := by
  have h1 := dec_lt l 0 h
  have h2 : 10 ^ l.length ≤ 10 ^ 5 := Nat.pow_le_pow_right (by omega) h5
  have h3 : decVal l = l.foldl stq 0 := rfl
  omega

theorem strip_zero {s : ByteArray} {k : Nat} (h : k < s.size) (hz : s[k].toNat = 48) : stripZ (s.data.toList.drop k) = stripZ (s.data.toList.drop (k + 1)) := by
  have hl : k < s.data.toList.length := by simpa using h
  rw [List.drop_eq_getElem_cons hl]
  unfold stripZ
  rw [List.dropWhile_cons_of_pos]
  show (s[k].toNat == 48) = true
  simp [hz]

theorem strip_stop {s : ByteArray} {k : Nat} (h : k < s.size) (hz : s[k].toNat ≠ 48) : stripZ (s.data.toList.drop k) = s.data.toList.drop k := by
  have hl : k < s.data.toList.length := by simpa using h
  rw [List.drop_eq_getElem_cons hl]
  unfold stripZ
  rw [List.dropWhile_cons_of_neg]
  show ¬ (s[k].toNat == 48) = true
  simp [hz]

theorem strip_end {s : ByteArray} : stripZ (s.data.toList.drop s.size) = s.data.toList.drop s.size := by
  have : s.data.toList.drop s.size = [] := by
    rw [List.drop_eq_nil_iff]
    simp
  rw [this]
  rfl

theorem drop_take_snoc {s : ByteArray} {k j : Nat} (hk : k ≤ j) (h : j < s.size) : (s.data.toList.drop k).take (j + 1 - k) = (s.data.toList.drop k).take (j - k) ++ [s[j]] := by
  have h1 : (s.data.toList.drop k)[j - k]? = some s[j] := by
    rw [List.getElem?_drop, show k + (j - k) = j by omega]
    exact data_get s j h
  rw [show j + 1 - k = (j - k) + 1 by omega, List.take_add_one, h1]
  rfl

theorem all_drop_take {s : ByteArray} (h : s.data.toList.all isD = true) (k m : Nat) : ((s.data.toList.drop k).take m).all isD = true := by
  rw [List.all_eq_true] at h ⊢
  intro c hc
  exact h c (List.mem_of_mem_drop (List.mem_of_mem_take hc))

theorem digit_at {s : ByteArray} (h : s.data.toList.all isD = true) {j : Nat} (hj : j < s.size) : 48 ≤ s[j].toNat ∧ s[j].toNat ≤ 57 := by
  rw [List.all_eq_true] at h
  have := h _ (List.mem_of_getElem? (data_get s j hj))
  simp [isD] at this
  exact this

/-- THE TWO READERS OF NUMERALS ARE ONE. -/
theorem numeral_eq (l : List UInt8) (h : l.all isD = true) : numeral l = satVal l := by
  rw [satVal_eq]
  unfold numeral
  by_cases h5 : 5 < (stripZ l).length
  · rw [if_pos h5]
    have h1 := dec_strip l
    cases hs : stripZ l with
    | nil => rw [hs] at h5; simp at h5
    | cons c r =>
      have hne := strip_head hs
      have hall := strip_all h
      rw [hs] at hall h5 h1
      simp only [List.all_cons, Bool.and_eq_true] at hall
      have hd := hall.1
      simp [isD] at hd
      have h2 := dec_ge r (stq 0 c)
      have h3 : decVal (c :: r) = r.foldl stq (stq 0 c) := rfl
      have h4 : 1 ≤ stq 0 c := by unfold stq; omega
      have h6 : 10 ^ 5 ≤ 10 ^ r.length := Nat.pow_le_pow_right (by omega) (by simpa using Nat.le_of_lt_succ h5)
      have h7 : 10 ^ r.length ≤ stq 0 c * 10 ^ r.length := Nat.le_mul_of_pos_left _ h4
      rw [← h1, h3]
      omega
  · rw [if_neg h5, dec_strip]

end Go.Proofs.Qxb6616116a
